import Derived.Test.YbulkdlaaStep
namespace Go.Proofs.Ybulkdlaa
set_option linter.unusedVariables false
set_option linter.unusedSimpArgs false
open Go.RowKit

/-! What the law expects behind unset. -/
def hits (k : RK) (e : NE) : Bool := decide (k.1 = adv) && decide (e.ns = k.2.1) && !e.nil
def restOf (k : RK) (e : NE) : List RK := if hits k e = true then e.keys.filter (fun q => decide (q ≠ k)) else e.keys
def gone (k : RK) (e : NE) : Bool := hits k e && (restOf k e).isEmpty
def wantN (k : RK) (dn : DN) : Nat := (dn.filter (fun e => !gone k e)).length

theorem hits_iff {k : RK} {e : NE} : hits k e = true ↔ k.1 = adv ∧ e.ns = k.2.1 ∧ e.nil = false := by
  unfold hits; simp [and_assoc]

theorem filter_len : ∀ {keys : List RK} {k : RK}, keys.Nodup → (keys.filter (fun q => decide (q ≠ k))).length = if (fsOf keys k).isSome then keys.length - 1 else keys.length
  | [], k, _ => by simp [fsOf]
  | a :: r, k, hn => by
    have hn2 := (List.nodup_cons.1 hn).2
    have hn1 := (List.nodup_cons.1 hn).1
    have ih := filter_len (keys := r) (k := k) hn2
    by_cases e : a = k
    · have hk : k ∉ r := by rw [← e]; exact hn1
      rw [List.filter_cons_of_neg (by simp [e]), ih, if_neg (fun h => hk (fsOf_isSome.1 h)), if_pos (fsOf_isSome.2 (by rw [e]; exact List.mem_cons_self))]
      simp
    · rw [List.filter_cons_of_pos (by simpa using e), List.length_cons, ih]
      by_cases hk : k ∈ r
      · have hl := List.length_pos_of_mem hk
        rw [if_pos (fsOf_isSome.2 hk), if_pos (fsOf_isSome.2 (List.mem_cons_of_mem _ hk))]
        simp; omega
      · have hk2 : k ∉ a :: r := by
          rw [List.mem_cons]
          rintro (h | h)
          · exact e h.symm
          · exact hk h
        rw [if_neg (fun h => hk (fsOf_isSome.1 h)), if_neg (fun h => hk2 (fsOf_isSome.1 h))]
        simp

theorem fsOf_filter {keys : List RK} {k : RK} (y : RK) : fsOf (keys.filter (fun q => decide (q ≠ k))) y = delM (fsOf keys) k y := by
  unfold delM
  by_cases e : y = k
  · rw [if_pos e, fsOf_not]; rw [e]; simp
  · rw [if_neg e]
    by_cases h : y ∈ keys
    · rw [fsOf_mem h, fsOf_mem (List.mem_filter.2 ⟨h, by simpa using e⟩)]
    · rw [fsOf_not h, fsOf_not (fun h' => h (List.mem_filter.1 h').1)]

theorem wantN_all {k : RK} {dn : DN} (h : ∀ e, e ∈ dn → gone k e = false) : wantN k dn = dn.length := by
  unfold wantN
  rw [List.filter_eq_self.2 (fun e he => by rw [h e he]; rfl)]

theorem wantN_one : ∀ {k : RK} {dn : DN} {e0 : NE}, (nsOf dn).Nodup → e0 ∈ dn → gone k e0 = true → wantN k dn = dn.length - 1
  | k, [], e0, _, h, _ => by simp at h
  | k, a :: r, e0, hn, h, hg => by
    have hn2 : (nsOf r).Nodup := by simp only [nsOf, List.map_cons, List.nodup_cons] at hn; exact hn.2
    have hn1 : a.ns ∉ nsOf r := by simp only [nsOf, List.map_cons, List.nodup_cons] at hn; exact hn.1
    have hgns : ∀ e, gone k e = true → e.ns = k.2.1 := fun e he => by
      unfold gone at he
      exact (hits_iff.1 (Bool.and_eq_true _ _ ▸ he).1).2.1
    by_cases ha : gone k a = true
    · have hr : ∀ e, e ∈ r → gone k e = false := fun e he => by
        cases hge : gone k e with
        | false => rfl
        | true => exact absurd (List.mem_map_of_mem (f := (·.ns)) he) (by rw [hgns e hge, ← hgns a ha]; exact hn1)
      have := wantN_all hr
      unfold wantN at this ⊢
      rw [List.filter_cons_of_neg (by simp [ha]), this]
      simp
    · have hr : e0 ∈ r := by
        rcases List.mem_cons.1 h with rfl | h
        · exact absurd hg ha
        · exact h
      have := wantN_one hn2 hr hg
      have hl := List.length_pos_of_mem hr
      unfold wantN at this ⊢
      rw [List.filter_cons_of_pos (by simpa using ha), List.length_cons, this]
      simp; omega

theorem nodup_inj {α : Type} {l : List α} (h : l.Nodup) {i j : Nat} (hi : i < l.length) (hj : j < l.length) (e : l[i] = l[j]) : i = j := by
  rcases Nat.lt_trichotomy i j with h' | h' | h'
  · exact absurd e (List.pairwise_iff_getElem.1 h i j hi hj h')
  · exact h'
  · exact absurd e.symm (List.pairwise_iff_getElem.1 h j i hj hi h')

/-- The state behind unset. -/
structure Fin2 (w wr : World) (R K0 : Nat) (k : RK) (vm vdm : Value) (dm : DM) (va vdn : Value) (dn : DN) : Prop where
  rb : RB wr R vm va
  m : MO kv 51 wr vm 4096 (delM (fmOf dm) k) (wantM dm k)
  row : OR encH 4 wr 61 vdm dm
  nod : (keysOf dm).Nodup
  fit : ∀ p, p ∈ dm → fits p.1
  kfit : fits k
  dlen : dm.length ≤ 4096
  box : wr.heap[K0]? = some (.cells #[.string k.1, .string k.2.1, .string k.2.2] 51)
  below : Below w.heap.size w wr
  nrow : OR encN 3 wr 65 vdn dn
  nfit : ∀ e, e ∈ dn → e.ns.size ≤ maxLen
  klen : ∀ e, e ∈ dn → e.keys.length ≤ 16777216
  a : ∃ na fa, MO .string 9 wr va na fa (wantN k dn) ∧ ∀ e, e ∈ dn → gone k e = false → fa e.ns = some (.map e.im)
  ent : ∀ e, e ∈ dn → OR encK 3 wr 51 e.sv e.keys ∧ (∀ x, x ∈ e.keys → fits x) ∧ e.nil = e.im.isNone ∧ (gone k e = false → ∃ n, MO kv 51 wr (.map e.im) n (fsOf (restOf k e)) (restOf k e).length)

theorem Fin2.same {w wr w' : World} {R K0 : Nat} {k : RK} {vm vdm : Value} {dm : DM} {va vdn : Value} {dn : DN} (F : Fin2 w wr R K0 k vm vdm dm va vdn dn) (hk : Kp (fun _ => False) wr w') : Fin2 w w' R K0 k vm vdm dm va vdn dn where
  rb := F.rb.block (hk.block _ F.rb.lt id)
  m := F.m.block (fun b e => hk.block _ (F.m.lt e) id)
  row := F.row.block (fun g e => hk.block _ (F.row.lt e) id)
  nod := F.nod
  fit := F.fit
  kfit := F.kfit
  dlen := F.dlen
  box := (hk.block _ (N2.olt F.box) id).trans F.box
  below := F.below.trans (hk.below F.below.size (fun _ h => h.elim))
  nrow := F.nrow.block (fun g e => hk.block _ (F.nrow.lt e) id)
  nfit := F.nfit
  klen := F.klen
  a := by
    obtain ⟨na, fa, h1, h2⟩ := F.a
    exact ⟨na, fa, h1.block (fun b e => hk.block _ (h1.lt e) id), h2⟩
  ent := fun e he => by
    obtain ⟨h1, h2, h3, h4⟩ := F.ent e he
    refine ⟨h1.block (fun g e => hk.block _ (h1.lt e) id), h2, h3, fun hg => ?_⟩
    obtain ⟨n, hn⟩ := h4 hg
    exact ⟨n, hn.block (fun b e => hk.block _ (hn.lt e) id)⟩

/-- What unset is called with, and the state behind it. -/
theorem N2.unset {w wr : World} {R G K0 : Nat} {gc : Array Value} {vm vdm : Value} {dm : DM} {va vdn : Value} {dn : DN} {N na : Nat} {k : RK} (L : N2 w wr R G gc vm vdm dm va vdn dn N (faOf dn) na dn.length none) (hN : N ≤ 16777216) (hk : fits k)
    (hbox : wr.heap[K0]? = some (.cells #[.string k.1, .string k.2.1, .string k.2.2] 51)) :
    Calls Yba.prog 5 #[.pointer (some ⟨R, 0, none⟩), kv k] wr fun e w' => e = .returned (.tuple #[]) ∧ Fin2 w w' R K0 k vm vdm dm va vdn dn := by
  have hentm : ∀ e, e ∈ dn → EOk wr N e := fun e he => by
    obtain ⟨i, hi⟩ := List.mem_iff_getElem?.1 he
    exact L.ent i e hi (by simp)
  -- the set of k's namespace
  have hiv : ∃ n3 fi szi, MO kv 51 wr ((faOf dn k.2.1).getD (.map none)) n3 fi szi ∧ (∀ e, e ∈ dn → e.ns = k.2.1 → fi = fsOf e.keys ∧ szi = e.keys.length) := by
    by_cases h : ∃ e, e ∈ dn ∧ e.ns = k.2.1
    · obtain ⟨e, he, hen⟩ := h
      have hf := faOf_mem L.nnod he
      rw [hen] at hf
      have huniq : ∀ e', e' ∈ dn → e'.ns = k.2.1 → e'.keys = e.keys := fun e' he' hn' => by
        obtain ⟨i, hi⟩ := List.mem_iff_getElem?.1 he
        obtain ⟨j, hj⟩ := List.mem_iff_getElem?.1 he'
        have hij : i = j := by
          have hi' : (nsOf dn)[i]? = some k.2.1 := by simp [nsOf, hi, hen]
          have hj' : (nsOf dn)[j]? = some k.2.1 := by simp [nsOf, hj, hn']
          obtain ⟨hil, hie⟩ := List.getElem?_eq_some_iff.1 hi'
          obtain ⟨hjl, hje⟩ := List.getElem?_eq_some_iff.1 hj'
          exact nodup_inj L.nnod hil hjl (hie.trans hje.symm)
        subst hij
        rw [hi] at hj; cases hj; rfl
      rw [hf]
      obtain ⟨h1, h2, h3, h4⟩ := hentm e he
      rcases h4 with ⟨hnil, him, hke, _⟩ | ⟨hnil, b, n, him, _, hm⟩
      · refine ⟨0, fsOf e.keys, e.keys.length, .inl ⟨by rw [him]; rfl, fun a => ?_, by rw [hke]; rfl⟩, fun e' he' hn' => by rw [huniq e' he' hn']; exact ⟨rfl, rfl⟩⟩
        rw [hke]; rfl
      · exact ⟨n, fsOf e.keys, e.keys.length, .inr ⟨b, by rw [him]; rfl, hm⟩, fun e' he' hn' => by rw [huniq e' he' hn']; exact ⟨rfl, rfl⟩⟩
    · rw [faOf_none (fun e he hen => h ⟨e, he, hen⟩)]
      exact ⟨0, fun _ => none, 0, .inl ⟨rfl, fun _ => rfl, rfl⟩, fun e he hen => absurd ⟨e, he, hen⟩ h⟩
  obtain ⟨n3, fi, szi, hI, hfi⟩ := hiv
  -- where its block lies
  have hivb : ∀ b, isB ((faOf dn k.2.1).getD (.map none)) b → ∃ (i : Nat) (e : NE), dn[i]? = some e ∧ e.ns = k.2.1 ∧ e.im = some b := fun b hb => by
    by_cases h : ∃ e, e ∈ dn ∧ e.ns = k.2.1
    · obtain ⟨e, he, hen⟩ := h
      have hf := faOf_mem L.nnod he
      rw [hen] at hf
      rw [hf] at hb
      obtain ⟨i, hi⟩ := List.mem_iff_getElem?.1 he
      refine ⟨i, e, hi, hen, ?_⟩
      unfold isB at hb
      simpa using hb
    · rw [faOf_none (fun e he hen => h ⟨e, he, hen⟩)] at hb
      unfold isB at hb
      simp at hb
  refine (unset_any k hk L.rb L.m L.a rfl hI L.sva (fun b hb => ?_)).mono ?_
  · obtain ⟨i, e, hi, _, hb'⟩ := hivb b hb
    exact ⟨(L.sep i e b hi hb').1, (L.sep i e b hi hb').2.1⟩
  rintro e w' ⟨rfl, P⟩
  refine ⟨rfl, ?_⟩
  -- a block that holds cells, or another set's, is as it was
  have hcell : ∀ (b : Nat) (cs : Array Value) (t : TypeId) (fr : Nat × Nat), wr.heap[b]? = some (.cells cs t fr) → w'.heap[b]? = wr.heap[b]? := fun b cs t fr hb => by
    refine P.kp.block b (N2.olt hb) ?_
    rintro (h | h | h)
    · obtain ⟨es, c, hm⟩ := L.m.isMap h; rw [hb] at hm; cases hm
    · obtain ⟨es, c, hm⟩ := L.a.isMap h; rw [hb] at hm; cases hm
    · obtain ⟨i, e, hi, _, hb'⟩ := hivb b h
      obtain ⟨_, _, _, es, c, hm⟩ := L.sep i e b hi hb'
      rw [hb] at hm; cases hm
  have hiv_of : ∀ e, e ∈ dn → e.ns = k.2.1 → (faOf dn k.2.1).getD (.map none) = .map e.im := fun e he hen => by
    have hf := faOf_mem L.nnod he
    rw [hen] at hf; rw [hf]; rfl
  have hnil_im : ∀ e, e ∈ dn → e.nil = e.im.isNone := fun e he => by
    obtain ⟨_, _, _, h4⟩ := hentm e he
    rcases h4 with ⟨h, h', _⟩ | ⟨h, b, n, h', _⟩
    · rw [h, h']; rfl
    · rw [h, h']; rfl
  have hgone : ∀ e, e ∈ dn → gone k e = true → k.1 = adv ∧ e.ns = k.2.1 ∧ e.nil = false ∧ e.keys.filter (fun q => decide (q ≠ k)) = [] := fun e he hg => by
    unfold gone at hg
    have hg := Bool.and_eq_true _ _ ▸ hg
    obtain ⟨h1, h2⟩ := hg
    have h3 := hits_iff.1 h1
    refine ⟨h3.1, h3.2.1, h3.2.2, ?_⟩
    unfold restOf at h2
    rw [if_pos h1] at h2
    simpa using h2
  refine ⟨P.rb, ?_, ?_, L.nod, L.fit, hk, L.dlen, ?_, ?_, ?_, L.nfit, ?_, ?_, ?_⟩
  · rw [wantM_eq L.nod]; exact P.m
  · exact L.row.block (fun g hg => by obtain ⟨cur, hc⟩ := L.row.obj hg; exact hcell g _ _ _ hc)
  · exact (hcell _ _ _ _ hbox).trans hbox
  · refine L.below.trans (P.kp.below L.below.size ?_)
    rintro b (h | h | h)
    · exact L.newM b h
    · exact L.newA b h
    · obtain ⟨i, e, hi, _, hb'⟩ := hivb b h
      exact (L.sep i e b hi hb').2.2.1
  · exact L.nrow.block (fun g hg => by obtain ⟨cur, hc⟩ := L.nrow.obj hg; exact hcell g _ _ _ hc)
  · intro e he
    obtain ⟨_, _, _, h4⟩ := hentm e he
    rcases h4 with ⟨_, _, h, _⟩ | ⟨_, b, n, _, hn, hm⟩
    · rw [h]; simp
    · exact Nat.le_trans hm.size_le (Nat.le_trans hn hN)
  · -- the map of sets
    by_cases hg : ∃ e, e ∈ dn ∧ gone k e = true
    · obtain ⟨e0, he0, hg0⟩ := hg
      obtain ⟨g1, g2, g3, g4⟩ := hgone e0 he0 hg0
      have hne : (faOf dn k.2.1).getD (.map none) ≠ .map none := by
        rw [hiv_of e0 he0 g2]
        intro h
        have := hnil_im e0 he0
        rw [g3] at this
        have h' : e0.im = none := by simpa using h
        rw [h'] at this; cases this
      obtain ⟨_, _, p3⟩ := P.hit g1 hne
      obtain ⟨f1, f2⟩ := hfi e0 he0 g2
      have hlen0 : (if (fi k).isSome then szi - 1 else szi) = 0 := by
        rw [f1, f2, ← filter_len (hentm e0 he0).2.1, g4]; rfl
      refine ⟨_, _, (p3 hlen0).refa (fun _ => rfl) ?_, fun e he hge => ?_⟩
      · rw [wantN_one L.nnod he0 hg0, if_pos]
        have := faOf_mem L.nnod he0
        rw [g2] at this; rw [this]; rfl
      · unfold delM
        rw [if_neg, faOf_mem L.nnod he]
        intro hen
        have : hits k e = true ∧ e.keys.filter (fun q => decide (q ≠ k)) = [] := by
          obtain ⟨f1', f2'⟩ := hfi e he hen
          have hn : e.nil = false := by
            rw [hnil_im e he]
            have h1 := hiv_of e he hen
            cases him : e.im with
            | none => rw [him] at h1; exact absurd h1 hne
            | some b => rfl
          refine ⟨hits_iff.2 ⟨g1, hen, hn⟩, ?_⟩
          apply List.length_eq_zero_iff.1
          rw [filter_len (hentm e he).2.1, ← f1', ← f2']; exact hlen0
        unfold gone restOf at hge
        rw [this.1, if_pos rfl, this.2] at hge
        simp at hge
    · have hng : ∀ e, e ∈ dn → gone k e = false := fun e he => by
        cases h : gone k e with
        | false => rfl
        | true => exact absurd ⟨e, he, h⟩ hg
      have hmo : MO .string 9 w' va na (faOf dn) dn.length := by
        by_cases hc : k.1 ≠ adv ∨ (faOf dn k.2.1).getD (.map none) = .map none
        · exact (P.other hc).2
        · rw [not_or] at hc
          have hadv : k.1 = adv := Classical.byContradiction hc.1
          obtain ⟨_, p2, _⟩ := P.hit hadv hc.2
          refine p2 ?_
          have hex : ∃ e, e ∈ dn ∧ e.ns = k.2.1 := Classical.byContradiction (fun h => hc.2 (by rw [faOf_none (fun e he hen => h ⟨e, he, hen⟩)]; rfl))
          obtain ⟨e, he, hen⟩ := hex
          obtain ⟨f1, f2⟩ := hfi e he hen
          have hn : e.nil = false := by
            rw [hnil_im e he]
            have h1 := hiv_of e he hen
            cases him : e.im with
            | none => rw [him] at h1; exact absurd h1 hc.2
            | some b => rfl
          have hh := hits_iff.2 ⟨hadv, hen, hn⟩
          have h2 := hng e he
          unfold gone restOf at h2
          rw [hh, if_pos rfl] at h2
          rw [f1, f2, ← filter_len (hentm e he).2.1]
          intro h3
          rw [List.length_eq_zero_iff.1 h3] at h2
          simp at h2
      exact ⟨_, _, hmo.refa (fun _ => rfl) (wantN_all hng), fun e he _ => faOf_mem L.nnod he⟩
  · intro e he
    obtain ⟨i, hi⟩ := List.mem_iff_getElem?.1 he
    obtain ⟨h1, h2, h3, h4⟩ := hentm e he
    refine ⟨h1.block (fun g hg => by obtain ⟨cur, hc⟩ := h1.obj hg; exact hcell g _ _ _ hc), h3, hnil_im e he, fun hge => ?_⟩
    by_cases hen : e.ns = k.2.1
    · have hv := hiv_of e he hen
      obtain ⟨f1, f2⟩ := hfi e he hen
      by_cases hh : hits k e = true
      · obtain ⟨q1, q2, q3⟩ := hits_iff.1 hh
        have hne : (faOf dn k.2.1).getD (.map none) ≠ .map none := by
          rw [hv]
          intro h
          have := hnil_im e he
          rw [q3] at this
          have h' : e.im = none := by simpa using h
          rw [h'] at this; cases this
        obtain ⟨p1, _, _⟩ := P.hit q1 hne
        rw [hv] at p1
        unfold restOf
        rw [if_pos hh]
        exact ⟨n3, p1.refa (fun y => by rw [f1]; exact fsOf_filter y) (by rw [f1, f2]; exact filter_len h2)⟩
      · have hc : k.1 ≠ adv ∨ (faOf dn k.2.1).getD (.map none) = .map none := by
          by_cases q1 : k.1 = adv
          · right
            rw [hv]
            have : e.nil = true := by
              cases hn : e.nil with
              | true => rfl
              | false => exact absurd (hits_iff.2 ⟨q1, hen, hn⟩) hh
            rw [hnil_im e he] at this
            cases him : e.im with
            | none => rfl
            | some b => rw [him] at this; cases this
          · exact .inl q1
        have p1 := (P.other hc).1
        rw [hv] at p1
        unfold restOf
        rw [if_neg hh]
        exact ⟨n3, p1.refa (fun y => by rw [f1]) f2.symm⟩
    · have hh : ¬ hits k e = true := fun h => hen (hits_iff.1 h).2.1
      unfold restOf
      rw [if_neg hh]
      rcases h4 with ⟨hnil, him, hke, _⟩ | ⟨hnil, b, n, him, _, hm⟩
      · exact ⟨0, .inl ⟨by rw [him], fun a => by rw [hke]; rfl, by rw [hke]; rfl⟩⟩
      · refine ⟨n, .inr ⟨b, by rw [him], hm.block (P.kp.block b hm.lt ?_)⟩⟩
        obtain ⟨s1, s2, _, _⟩ := L.sep i e b hi him
        rintro (h | h | h)
        · exact s1 h
        · exact s2 h
        · obtain ⟨j, f, hj, hfn, hfb⟩ := hivb b h
          have := L.inj i j e f b hi hj him hfb
          subst this
          rw [hi] at hj; cases hj
          exact hen hfn
end Go.Proofs.Ybulkdlaa
