import Derived.Test.YbulkdlaaPlain
namespace Go.Proofs.Ybulkdlaa
set_option linter.unusedVariables false
set_option linter.unusedSimpArgs false
open Go.RowKit

/-- What came in. -/
structure Inp (w : World) (a0 : Option Addr) (n0 b0 o0 : Nat) (hs : Nat → Int) (hn hk : Nat → ByteArray) (a1 : Option Addr) (n1 b1 o1 : Nat) (an : Nat → ByteArray) (ai : Nat → Bool) (ak : Nat → Option Addr) (al ac kb ko : Nat → Nat) (ks : Nat → Nat → ByteArray) : Prop where
  hA0 : 0 < n0 → a0 = some ⟨b0, o0, none⟩
  h0 : ∀ j, j < n0 → w.cell? ⟨b0, o0 + j * 3, none⟩ = some (.int .u8 (hs j))
  h1 : ∀ j, j < n0 → w.cell? ⟨b0, o0 + j * 3 + 1, none⟩ = some (.string (hn j))
  h2 : ∀ j, j < n0 → w.cell? ⟨b0, o0 + j * 3 + 2, none⟩ = some (.string (hk j))
  hsb : ∀ j, 0 ≤ hs j ∧ hs j ≤ 255
  hnb : ∀ j, j < n0 → (hn j).size ≤ maxLen
  hkb : ∀ j, j < n0 → (hk j).size ≤ maxLen
  hA1 : 0 < n1 → a1 = some ⟨b1, o1, none⟩
  c0 : ∀ j, j < n1 → w.cell? ⟨b1, o1 + j * 3, none⟩ = some (.string (an j))
  c1 : ∀ j, j < n1 → w.cell? ⟨b1, o1 + j * 3 + 1, none⟩ = some (.bool (ai j))
  c2 : ∀ j, j < n1 → w.cell? ⟨b1, o1 + j * 3 + 2, none⟩ = some (.slice (ak j) (al j) (ac j))
  anb : ∀ j, j < n1 → (an j).size ≤ maxLen
  hA2 : ∀ j, j < n1 → 0 < al j → ak j = some ⟨kb j, ko j, none⟩
  k0 : ∀ j, j < n1 → ∀ t, t < al j → w.cell? ⟨kb j, ko j + t, none⟩ = some (.string (ks j t))
  ksb : ∀ j, j < n1 → ∀ t, t < al j → (ks j t).size ≤ maxLen

theorem ne_obj {w : World} {a b : Nat} {x y : Obj} (h1 : w.heap[a]? = some x) (h2 : w.heap[b]? = some y) (hne : x ≠ y) : a ≠ b := by
  rintro rfl
  rw [h1] at h2
  cases h2
  exact hne rfl

/-- What holds at the head of the loop over the held keys. -/
structure L1 (w wr : World) (R G : Nat) (gc : Array Value) (vm vdm : Value) (dm : DM) (i : Nat) : Prop where
  rb : RB wr R vm (.map none)
  m : MO kv 51 wr vm i (fmOf dm) dm.length
  row : OR encH 4 wr 61 vdm dm
  nod : (keysOf dm).Nodup
  fit : ∀ p, p ∈ dm → fits p.1
  len : dm.length ≤ i
  box : wr.heap[G]? = some (.cells gc 25)
  below : Below w.heap.size w wr
  newR : w.heap.size ≤ R
  newG : w.heap.size ≤ G
  newM : ∀ b, isB vm b → w.heap.size ≤ b
  newD : ∀ g, vdm.ownBlock = some g → w.heap.size ≤ g

namespace L1
variable {w wr w' : World} {R G : Nat} {gc : Array Value} {vm vdm : Value} {dm : DM} {i : Nat}

theorem kp {T : Nat → Prop} (L : L1 w wr R G gc vm vdm dm i) (hk : Kp T wr w') (hR : ¬ T R) (hG : ¬ T G) (hm : ∀ b, isB vm b → ¬ T b) (hd : ∀ g, vdm.ownBlock = some g → ¬ T g) (hT : ∀ b, T b → w.heap.size ≤ b) : L1 w w' R G gc vm vdm dm i :=
  ⟨L.rb.block (hk.block _ L.rb.lt hR), L.m.block (fun b e => hk.block _ (L.m.lt e) (hm b e)), L.row.block (fun g e => hk.block _ (L.row.lt e) (hd g e)), L.nod, L.fit, L.len,
    (hk.block _ (Array.getElem?_eq_some_iff.1 L.box).1 hG).trans L.box, L.below.trans (hk.below L.below.size hT), L.newR, L.newG, L.newM, L.newD⟩

theorem keep (L : L1 w wr R G gc vm vdm dm i) (hb : Below wr.heap.size wr w') : L1 w w' R G gc vm vdm dm i :=
  L.kp (T := fun _ => False) (Kp.ofBelow hb) id id (fun _ _ => id) (fun _ _ => id) (fun _ h => h.elim)

theorem neRG (L : L1 w wr R G gc vm vdm dm i) : R ≠ G := by
  obtain ⟨cur, hc⟩ := L.rb.obj
  exact ne_obj hc L.box (by simp)
theorem neD (L : L1 w wr R G gc vm vdm dm i) {g : Nat} (h : vdm.ownBlock = some g) : g ≠ R ∧ g ≠ G ∧ ¬ isB vm g := by
  obtain ⟨cur, hc⟩ := L.row.obj h
  obtain ⟨cu2, hc2⟩ := L.rb.obj
  refine ⟨ne_obj hc hc2 (by simp), ne_obj hc L.box (by simp), fun e => ?_⟩
  obtain ⟨es, c, hm⟩ := L.m.isMap e
  rw [hc] at hm; cases hm
theorem neM (L : L1 w wr R G gc vm vdm dm i) {b : Nat} (h : isB vm b) : b ≠ R ∧ b ≠ G := by
  obtain ⟨es, c, hm⟩ := L.m.isMap h
  obtain ⟨cu2, hc2⟩ := L.rb.obj
  exact ⟨ne_obj hm hc2 (by simp), ne_obj hm L.box (by simp)⟩

theorem start {w wA : World} (gc : Array Value) (hbA : Below w.heap.size w wA) (h1 : wA.heap[w.heap.size]? = some (.cells gc 25)) (h2 : wA.heap.size = w.heap.size + 1) :
    L1 w (wA.alloc (.cells #[.int .i32 0, .int .u32 0, .map none, .map none, .int .u64 0, .int .i64 0, .pointer none, .nilIface] 47)) (w.heap.size + 1) w.heap.size gc (.map none) (.slice none 0 0) [] 0 := by
  have r := World.rowIs_alloc wA #[.int .i32 0, .int .u32 0, .map none, .map none, .int .u64 0, .int .i64 0, .pointer none, .nilIface] 47
    (fun j => (#[Value.int .i32 0, .int .u32 0, .map none, .map none, .int .u64 0, .int .i64 0, .pointer none, .nilIface] : Array Value).getD j undef) (fun j hj => by
      simp only [Array.getD, hj, dif_pos]
      rw [Array.getElem?_eq_getElem hj]; rfl)
  rw [h2] at r
  refine ⟨⟨_, r, rfl, rfl, rfl, rfl, rfl, rfl⟩, .inl ⟨rfl, fun a => rfl, rfl⟩, OR.nil _ _, List.nodup_nil, by simp, Nat.le_refl _, ?_, hbA.alloc hbA.size _, Nat.le_succ _, Nat.le_refl _, (fun b h => by cases h), (fun g h => by cases h)⟩
  rw [RowKit.Below.heap_alloc _ _ _ (by omega)]; exact h1

theorem made (L : L1 w wr R G gc (.map none) vdm [] 0) :
    L1 w ((wr.setCell ⟨R, 2, none⟩ (.map (some wr.heap.size))).alloc (.map #[] 0)) R G gc (.map (some wr.heap.size)) vdm [] 0 := by
  rw [← World.setCell_alloc_past (.map #[] 0) R 2 (.map (some wr.heap.size)) L.rb.lt]
  have L' := L.keep (w' := wr.alloc (.map #[] 0)) ((Below.refl _ wr).alloc (Nat.le_refl _) _)
  have hRl := L.rb.lt
  have hk : Kp (fun b => b = R) (wr.alloc (.map #[] 0)) ((wr.alloc (.map #[] 0)).setCell ⟨R, 2, none⟩ (.map (some wr.heap.size))) := (Kp.refl (fun b => b = R) _).setCell (.inl rfl) _
  refine ⟨L'.rb.setM _, .inr ⟨wr.heap.size, rfl, ?_⟩, L'.row.block (fun g e => hk.block _ (L'.row.lt e) (L'.neD e).1), L.nod, L.fit, L.len, ?_, ?_, L.newR, L.newG, fun b h => ?_, L.newD⟩
  · exact (MG.made kv 51 wr).block (RowKit.Below.heap_setCell _ _ _ _ (by simp; omega))
  · exact (hk.block _ (Array.getElem?_eq_some_iff.1 L'.box).1 (Ne.symm L'.neRG)).trans L'.box
  · exact L'.below.trans (hk.below L'.below.size (fun b e => by rw [e]; exact L.newR))
  · unfold isB at h
    simp at h
    have := L.below.size
    omega
end L1

/-- In the round: the record is in the map; the list is being brought up to date. -/
structure Mid (w wr : World) (R G : Nat) (gc : Array Value) (bm : Nat) (vdm : Value) (dm dm2 : DM) (x : RK) (r : Int) (i B : Nat) : Prop where
  rb : RB wr R (.map (some bm)) (.map none)
  m : MG kv 51 wr bm (i + 1) (updM (fmOf dm) x (hv x r)) (if (fmOf dm x).isSome then dm.length else dm.length + 1)
  row : OR encH 4 wr 61 vdm dm2
  nod : (keysOf dm).Nodup
  fit : ∀ p, p ∈ dm → fits p.1
  fx : fits x
  len : dm.length ≤ i
  box : wr.heap[G]? = some (.cells gc 25)
  boxB : wr.heap[B]? = some (.cells #[.string x.1, .string x.2.1, .string x.2.2] 51)
  below : Below w.heap.size w wr
  newR : w.heap.size ≤ R
  newG : w.heap.size ≤ G
  newM : w.heap.size ≤ bm
  newB : w.heap.size ≤ B
  newD : ∀ g, vdm.ownBlock = some g → w.heap.size ≤ g

namespace Mid
variable {w wr w' : World} {R G : Nat} {gc : Array Value} {bm : Nat} {vdm : Value} {dm dm2 : DM} {x : RK} {r : Int} {i B : Nat}

theorem kp {T : Nat → Prop} (L : Mid w wr R G gc bm vdm dm dm2 x r i B) (hk : Kp T wr w') (hR : ¬ T R) (hG : ¬ T G) (hm : ¬ T bm) (hB : ¬ T B) {vdm' : Value} {dm3 : DM} (hrow : OR encH 4 w' 61 vdm' dm3) (hD : ∀ g, vdm'.ownBlock = some g → w.heap.size ≤ g) (hT : ∀ b, T b → w.heap.size ≤ b) : Mid w w' R G gc bm vdm' dm dm3 x r i B :=
  ⟨L.rb.block (hk.block _ L.rb.lt hR), L.m.block (hk.block _ L.m.lt hm), hrow, L.nod, L.fit, L.fx, L.len,
    (hk.block _ (Array.getElem?_eq_some_iff.1 L.box).1 hG).trans L.box, (hk.block _ (Array.getElem?_eq_some_iff.1 L.boxB).1 hB).trans L.boxB, L.below.trans (hk.below L.below.size hT), L.newR, L.newG, L.newM, L.newB, hD⟩

theorem same (L : Mid w wr R G gc bm vdm dm dm2 x r i B) (hk : Kp (fun _ => False) wr w') : Mid w w' R G gc bm vdm dm dm2 x r i B :=
  L.kp hk id id id id (L.row.block (fun g e => hk.block _ (L.row.lt e) id)) L.newD (fun _ h => h.elim)

theorem toL1 {dm' : DM} (L : Mid w wr R G gc bm vdm dm dm' x r i B) (h : DmStep dm x r dm') : L1 w wr R G gc (.map (some bm)) vdm dm' (i + 1) := by
  refine ⟨L.rb, .inr ⟨bm, rfl, ?_⟩, L.row, h.nodup L.nod, fun p hp => ?_, ?_, L.box, L.below, L.newR, L.newG, fun b e => ?_, L.newD⟩
  · rw [h.length]; exact L.m.congr (fun a => h.fm L.nod a)
  · rcases h with ⟨j, q, hj, hq, rfl⟩ | ⟨hx, rfl⟩
    · rcases List.mem_or_eq_of_mem_set hp with h' | h'
      · exact L.fit p h'
      · rw [h']; exact L.fx
    · rcases List.mem_append.1 hp with h' | h'
      · exact L.fit p h'
      · simp at h'; rw [h']; exact L.fx
  · rw [h.length]
    have := L.len
    split <;> omega
  · unfold isB at e; simp at e; rw [← e]; exact L.newM

theorem b0 (L : Mid w wr R G gc bm vdm dm dm2 x r i B) : wr.cell? ⟨B, 0, none⟩ = some (.string x.1) := by simp [World.cell?, L.boxB]
theorem b1 (L : Mid w wr R G gc bm vdm dm dm2 x r i B) : wr.cell? ⟨B, 1, none⟩ = some (.string x.2.1) := by simp [World.cell?, L.boxB]
theorem b2 (L : Mid w wr R G gc bm vdm dm dm2 x r i B) : wr.cell? ⟨B, 2, none⟩ = some (.string x.2.2) := by simp [World.cell?, L.boxB]

theorem neD (L : Mid w wr R G gc bm vdm dm dm2 x r i B) {g : Nat} (h : vdm.ownBlock = some g) : g ≠ R ∧ g ≠ G ∧ g ≠ bm ∧ g ≠ B := by
  obtain ⟨cur, hc⟩ := L.row.obj h
  obtain ⟨cu2, hc2⟩ := L.rb.obj
  obtain ⟨es, c, hm⟩ := L.m.isMap
  exact ⟨ne_obj hc hc2 (by simp), ne_obj hc L.box (by simp), ne_obj hc hm (by simp), ne_obj hc L.boxB (by simp)⟩
end Mid

/-- The round's key is stored in the map. -/
theorem L1.mid {w wr w2 w3 : World} {R G : Nat} {gc : Array Value} {bm : Nat} {vdm : Value} {dm : DM} {i : Nat} {x : RK} {r : Int} {B : Nat} (L : L1 w wr R G gc (.map (some bm)) vdm dm i) (hx : fits x) (hb : Below wr.heap.size wr w2) (hB : w2.heap[B]? = some (.cells #[.string x.1, .string x.2.1, .string x.2.2] 51)) (hB0 : wr.heap.size ≤ B)
    (hm : MG kv 51 w3 bm (i + 1) (updM (fmOf dm) x (hv x r)) (if (fmOf dm x).isSome then dm.length else dm.length + 1)) (hT : w2.drew.mapTurned w3 bm) : Mid w w3 R G gc bm vdm dm dm x r i B := by
  have L2 := L.keep hb
  obtain ⟨z1, z2, z3, z4, hbl⟩ := turned_block hT
  have hBm : B ≠ bm := fun e => by have := L.m.lt rfl; omega
  have hMM := L2.neM (b := bm) rfl
  refine ⟨L2.rb.block (hbl R (Ne.symm hMM.1)), hm, L2.row.block (fun g e => hbl g (fun e' => (L2.neD e).2.2 (by rw [e']; rfl))), L.nod, L.fit, hx, L.len, (hbl G (Ne.symm hMM.2)).trans L2.box, (hbl B hBm).trans hB, ?_, L.newR, L.newG, L.newM bm rfl, Nat.le_trans L.below.size hB0, L.newD⟩
  have hk : Kp (fun b => b = bm) w2 w3 := ⟨z3, z2, z4, by rw [z1]; exact Nat.le_refl _, fun b _ hne => hbl b hne⟩
  exact L2.below.trans (hk.below L2.below.size (fun b e => by rw [e]; exact L.newM bm rfl))

theorem cells_of {w : World} {g cap t : Nat} {dm : DM} {p : RK × Int} (h : OR encH 4 w 61 (.slice (some ⟨g, 0, none⟩) dm.length cap) dm) (ht : dm[t]? = some p) :
    w.cell? ⟨g, t * 4, none⟩ = some (.string p.1.1) ∧ w.cell? ⟨g, t * 4 + 1, none⟩ = some (.string p.1.2.1) ∧ w.cell? ⟨g, t * 4 + 2, none⟩ = some (.string p.1.2.2) ∧ w.cell? ⟨g, t * 4 + 3, none⟩ = some (.int .i64 p.2) :=
  ⟨h.cell encH_len rfl ht (r := 0) (by omega), h.cell encH_len rfl ht (r := 1) (by omega), h.cell encH_len rfl ht (r := 2) (by omega), h.cell encH_len rfl ht (r := 3) (by omega)⟩

theorem Mid.stored {w wr : World} {R G : Nat} {gc : Array Value} {bm : Nat} {dm : DM} {x : RK} {r : Int} {i B g cap t : Nat} {p : RK × Int} (L : Mid w wr R G gc bm (.slice (some ⟨g, 0, none⟩) dm.length cap) dm dm x r i B) (ht : dm[t]? = some p) (hp : p.1 = x) :
    Mid w (wr.setCell ⟨g, t * 4 + 3, none⟩ (.int .i64 r)) R G gc bm (.slice (some ⟨g, 0, none⟩) dm.length cap) dm (dm.set t (x, r)) x r i B := by
  have hd := L.neD (g := g) rfl
  have hk : Kp (fun b => b = g) wr (wr.setCell ⟨g, t * 4 + 3, none⟩ (.int .i64 r)) := (Kp.refl (fun b => b = g) _).setCell (.inl rfl) _
  refine L.kp hk (Ne.symm hd.1) (Ne.symm hd.2.1) (Ne.symm hd.2.2.1) (Ne.symm hd.2.2.2) ?_ L.newD (fun b e => by rw [e]; exact L.newD g rfl)
  exact L.row.store encH_len rfl ht (r := 3) (by omega) (by subst hp; rfl)

theorem add_eq (b off j : Nat) : ((⟨b, off, none⟩ : Addr).add j) = ⟨b, off + j, none⟩ := by
  unfold Addr.add
  by_cases h : j = 0
  · simp [h]
  · simp [h]

theorem cell_new (w : World) (l : List Value) (t : TypeId) (j : Nat) (u : Value) (h : l[j]? = some u) : (w.alloc (.cells l.toArray t)).cell? ((⟨w.heap.size, 0, none⟩ : Addr).add j) = some u := by
  have hb : (w.alloc (.cells l.toArray t)).heap[w.heap.size]? = some (.cells l.toArray t) := Deep.blk_alloc_new _ _
  rw [add_eq, Nat.zero_add]
  simp only [World.cell?, hb]
  simpa using h

theorem kp_grown {wr w' : World} {o : Obj} {v : Value} (hg : (wr.alloc o).grownBy w' v.ownBlock) : Kp (fun b => v.ownBlock = some b) wr w' :=
  ⟨hg.os, hg.tape, hg.output, by have := hg.size; simp at this; omega, fun b hb hn => by
    rw [hg.block b (by simp; omega) (fun e => hn e.symm), RowKit.Below.heap_alloc _ _ _ hb]⟩

theorem Mid.append {w wr w' : World} {R G : Nat} {gc : Array Value} {bm : Nat} {vdm v' : Value} {dm : DM} {x : RK} {r : Int} {i B : Nat} {o : Obj} (L : Mid w wr R G gc bm vdm dm dm x r i B) (hown : w'.ownsRow 0 61 4 v' (dm.length + 1) (dm.flatMap encH ++ encH (x, r)))
    (hg : (wr.alloc o).grownBy w' vdm.ownBlock) (hloc : v'.ownBlock = vdm.ownBlock ∨ v'.ownBlock = some (wr.heap.size + 1)) (hno : ∀ p, p ∈ dm → p.1 ≠ x) : L1 w w' R G gc (.map (some bm)) v' (dm ++ [(x, r)]) (i + 1) := by
  have hk := kp_grown hg
  refine (L.kp hk (fun e => (L.neD e).1 rfl) (fun e => (L.neD e).2.1 rfl) (fun e => (L.neD e).2.2.1 rfl) (fun e => (L.neD e).2.2.2 rfl) (OR.snoc hown) (fun g e => ?_) (fun b e => L.newD b e)).toL1 (.inr ⟨hno, rfl⟩)
  rcases hloc with h | h
  · exact L.newD g (by rw [← h]; exact e)
  · rw [h] at e
    simp at e
    have := L.below.size
    omega

theorem info61 : (Yba.prog.info? 61).map (fun i => (i.zero, i.size, i.bytes)) = some (some (.agg #[.string ⟨#[]⟩, .string ⟨#[]⟩, .string ⟨#[]⟩, .int .i64 0]), 4, 56) := by kernel_rfl

end Go.Proofs.Ybulkdlaa
