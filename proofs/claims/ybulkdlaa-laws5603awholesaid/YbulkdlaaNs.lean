import Derived.Test.YbulkdlaaPlain2
namespace Go.Proofs.Ybulkdlaa
set_option linter.unusedVariables false
set_option linter.unusedSimpArgs false
open Go.RowKit

/-- An entry and its set agree; at most N stores have been made into the set. -/
def EOk (w : World) (N : Nat) (e : NE) : Prop :=
  OR encK 3 w 51 e.sv e.keys ∧ e.keys.Nodup ∧ (∀ x, x ∈ e.keys → fits x) ∧
  ((e.nil = true ∧ e.im = none ∧ e.keys = [] ∧ e.sv = .slice none 0 0) ∨ (e.nil = false ∧ ∃ b n, e.im = some b ∧ n ≤ N ∧ MG kv 51 w b n (fsOf e.keys) e.keys.length))

theorem EOk.block {w w' : World} {N : Nat} {e : NE} (h : EOk w N e) (h1 : ∀ b, e.im = some b → b < w.heap.size → w'.heap[b]? = w.heap[b]?) (h2 : ∀ b, e.sv.ownBlock = some b → b < w.heap.size → w'.heap[b]? = w.heap[b]?) : EOk w' N e := by
  obtain ⟨a, b, c, d⟩ := h
  refine ⟨a.block (fun g e => h2 g e (a.lt e)), b, c, ?_⟩
  rcases d with d | ⟨d1, b, n, d2, d3, d4⟩
  · exact .inl d
  · exact .inr ⟨d1, b, n, d2, d3, d4.block (h1 b d2 d4.lt)⟩

theorem EOk.mono {w : World} {N N' : Nat} {e : NE} (h : EOk w N e) (hN : N ≤ N') : EOk w N' e := by
  obtain ⟨a, b, c, d⟩ := h
  refine ⟨a, b, c, ?_⟩
  rcases d with d | ⟨d1, b, n, d2, d3, d4⟩
  · exact .inl d
  · exact .inr ⟨d1, b, n, d2, Nat.le_trans d3 hN, d4⟩

structure N2 (w wr : World) (R G : Nat) (gc : Array Value) (vm vdm : Value) (dm : DM) (va vdn : Value) (dn : DN) (N : Nat) (fa : ByteArray → Option Value) (na sza : Nat) (sk : Option Nat) : Prop where
  rb : RB wr R vm va
  m : MO kv 51 wr vm 4096 (fmOf dm) dm.length
  row : OR encH 4 wr 61 vdm dm
  nod : (keysOf dm).Nodup
  fit : ∀ p, p ∈ dm → fits p.1
  dlen : dm.length ≤ 4096
  box : wr.heap[G]? = some (.cells gc 25)
  below : Below w.heap.size w wr
  newR : w.heap.size ≤ R
  newG : w.heap.size ≤ G
  newM : ∀ b, isB vm b → w.heap.size ≤ b
  newD : ∀ g, vdm.ownBlock = some g → w.heap.size ≤ g
  a : MO .string 9 wr va na fa sza
  nrow : OR encN 3 wr 65 vdn dn
  nnod : (nsOf dn).Nodup
  nfit : ∀ e, e ∈ dn → e.ns.size ≤ maxLen
  ent : ∀ (i : Nat) (e : NE), dn[i]? = some e → sk ≠ some i → EOk wr N e
  sep : ∀ (i : Nat) (e : NE) (b : Nat), dn[i]? = some e → e.im = some b → ¬ isB vm b ∧ ¬ isB va b ∧ w.heap.size ≤ b ∧ ∃ es c, wr.heap[b]? = some (.map es c)
  inj : ∀ (i j : Nat) (e f : NE) (b : Nat), dn[i]? = some e → dn[j]? = some f → e.im = some b → f.im = some b → i = j
  rsep : ∀ (i : Nat) (e : NE) (b : Nat), dn[i]? = some e → e.sv.ownBlock = some b → w.heap.size ≤ b ∧ ∃ cur, wr.heap[b]? = some (.cells cur 51 (0, 0))
  rinj : ∀ (i j : Nat) (e f : NE) (b : Nat), dn[i]? = some e → dn[j]? = some f → e.sv.ownBlock = some b → f.sv.ownBlock = some b → i = j
  newA : ∀ b, isB va b → w.heap.size ≤ b
  newN : ∀ g, vdn.ownBlock = some g → w.heap.size ≤ g
  sva : ∀ b, isB vm b → ¬ isB va b

namespace N2
variable {w wr w' : World} {R G : Nat} {gc : Array Value} {vm vdm : Value} {dm : DM} {va vdn : Value} {dn : DN} {N : Nat} {fa : ByteArray → Option Value} {na sza : Nat} {sk : Option Nat}

theorem olt {b : Nat} {o : Obj} (h : wr.heap[b]? = some o) : b < wr.heap.size := (Array.getElem?_eq_some_iff.1 h).1

theorem kp {T : Nat → Prop} (L : N2 w wr R G gc vm vdm dm va vdn dn N fa na sza sk) (hk : Kp T wr w') (hR : ¬ T R) (hG : ¬ T G) (hm : ∀ b, isB vm b → ¬ T b) (hd : ∀ g, vdm.ownBlock = some g → ¬ T g) (ha : ∀ b, isB va b → ¬ T b) (hn : ∀ g, vdn.ownBlock = some g → ¬ T g)
    (hi : ∀ (i : Nat) (e : NE) (b : Nat), dn[i]? = some e → e.im = some b → ¬ T b) (hs : ∀ (i : Nat) (e : NE) (b : Nat), dn[i]? = some e → e.sv.ownBlock = some b → ¬ T b) (hT : ∀ b, T b → w.heap.size ≤ b) : N2 w w' R G gc vm vdm dm va vdn dn N fa na sza sk where
  rb := L.rb.block (hk.block _ L.rb.lt hR)
  m := L.m.block (fun b e => hk.block _ (L.m.lt e) (hm b e))
  row := L.row.block (fun g e => hk.block _ (L.row.lt e) (hd g e))
  nod := L.nod
  fit := L.fit
  dlen := L.dlen
  box := (hk.block _ (olt L.box) hG).trans L.box
  below := L.below.trans (hk.below L.below.size hT)
  newR := L.newR
  newG := L.newG
  newM := L.newM
  newD := L.newD
  a := L.a.block (fun b e => hk.block _ (L.a.lt e) (ha b e))
  nrow := L.nrow.block (fun g e => hk.block _ (L.nrow.lt e) (hn g e))
  nnod := L.nnod
  nfit := L.nfit
  ent := fun i e he hsk => (L.ent i e he hsk).block (fun b h hb => hk.block _ hb (hi i e b he h)) (fun b h hb => hk.block _ hb (hs i e b he h))
  sep := fun i e b he h => by
    obtain ⟨h1, h2, h3, es, c, h4⟩ := L.sep i e b he h
    exact ⟨h1, h2, h3, es, c, (hk.block _ (olt h4) (hi i e b he h)).trans h4⟩
  inj := L.inj
  rsep := fun i e b he h => by
    obtain ⟨h1, cur, h4⟩ := L.rsep i e b he h
    exact ⟨h1, cur, (hk.block _ (olt h4) (hs i e b he h)).trans h4⟩
  rinj := L.rinj
  newA := L.newA
  newN := L.newN
  sva := L.sva

theorem same (L : N2 w wr R G gc vm vdm dm va vdn dn N fa na sza sk) (hk : Kp (fun _ => False) wr w') : N2 w w' R G gc vm vdm dm va vdn dn N fa na sza sk :=
  L.kp hk id id (fun _ _ => id) (fun _ _ => id) (fun _ _ => id) (fun _ _ => id) (fun _ _ _ _ _ => id) (fun _ _ _ _ _ => id) (fun _ h => h.elim)

theorem keep (L : N2 w wr R G gc vm vdm dm va vdn dn N fa na sza sk) (hb : Below wr.heap.size wr w') : N2 w w' R G gc vm vdm dm va vdn dn N fa na sza sk :=
  L.same (Kp.ofBelow hb)

/-- The row of entries: what it differs from. -/
theorem neN (L : N2 w wr R G gc vm vdm dm va vdn dn N fa na sza sk) {g : Nat} (h : vdn.ownBlock = some g) :
    g ≠ R ∧ g ≠ G ∧ ¬ isB vm g ∧ vdm.ownBlock ≠ some g ∧ ¬ isB va g ∧ (∀ (i : Nat) (e : NE), dn[i]? = some e → e.im ≠ some g) ∧ (∀ (i : Nat) (e : NE), dn[i]? = some e → e.sv.ownBlock ≠ some g) := by
  obtain ⟨cur, hc⟩ := L.nrow.obj h
  obtain ⟨cu2, hc2⟩ := L.rb.obj
  refine ⟨ne_obj hc hc2 (by simp), ne_obj hc L.box (by simp), fun e => ?_, fun e => ?_, fun e => ?_, fun i e he e1 => ?_, fun i e he e1 => ?_⟩
  · obtain ⟨es, c, hm⟩ := L.m.isMap e; rw [hc] at hm; cases hm
  · obtain ⟨cu, hm⟩ := L.row.obj e; rw [hc] at hm; cases hm
  · obtain ⟨es, c, hm⟩ := L.a.isMap e; rw [hc] at hm; cases hm
  · obtain ⟨_, _, _, es, c, hm⟩ := L.sep i e g he e1; rw [hc] at hm; cases hm
  · obtain ⟨_, cu, hm⟩ := L.rsep i e g he e1; rw [hc] at hm; cases hm

/-- The map of sets: what it differs from. -/
theorem neA (L : N2 w wr R G gc vm vdm dm va vdn dn N fa na sza sk) {b : Nat} (h : isB va b) :
    b ≠ R ∧ b ≠ G ∧ ¬ isB vm b ∧ vdm.ownBlock ≠ some b ∧ vdn.ownBlock ≠ some b ∧ (∀ (i : Nat) (e : NE), dn[i]? = some e → e.im ≠ some b) ∧ (∀ (i : Nat) (e : NE), dn[i]? = some e → e.sv.ownBlock ≠ some b) := by
  obtain ⟨es, c, hm⟩ := L.a.isMap h
  obtain ⟨cu2, hc2⟩ := L.rb.obj
  refine ⟨ne_obj hm hc2 (by simp), ne_obj hm L.box (by simp), fun e => L.sva b e h, fun e => ?_, fun e => ?_, fun i e he e1 => ?_, fun i e he e1 => ?_⟩
  · obtain ⟨cu, hc⟩ := L.row.obj e; rw [hc] at hm; cases hm
  · obtain ⟨cu, hc⟩ := L.nrow.obj e; rw [hc] at hm; cases hm
  · exact (L.sep i e b he e1).2.1 h
  · obtain ⟨_, cu, hc⟩ := L.rsep i e b he e1; rw [hc] at hm; cases hm

/-- A set's block: what it differs from. -/
theorem neI (L : N2 w wr R G gc vm vdm dm va vdn dn N fa na sza sk) {t : Nat} {e : NE} {b : Nat} (ht : dn[t]? = some e) (h : e.im = some b) :
    b ≠ R ∧ b ≠ G ∧ ¬ isB vm b ∧ vdm.ownBlock ≠ some b ∧ vdn.ownBlock ≠ some b ∧ ¬ isB va b ∧ (∀ (i : Nat) (f : NE), dn[i]? = some f → f.im = some b → i = t) ∧ (∀ (i : Nat) (f : NE), dn[i]? = some f → f.sv.ownBlock ≠ some b) := by
  obtain ⟨h1, h2, h3, es, c, hm⟩ := L.sep t e b ht h
  obtain ⟨cu2, hc2⟩ := L.rb.obj
  refine ⟨ne_obj hm hc2 (by simp), ne_obj hm L.box (by simp), h1, fun e => ?_, fun e => ?_, h2, fun i f hf e1 => L.inj i t f e b hf ht e1 h, fun i e he e1 => ?_⟩
  · obtain ⟨cu, hc⟩ := L.row.obj e; rw [hc] at hm; cases hm
  · obtain ⟨cu, hc⟩ := L.nrow.obj e; rw [hc] at hm; cases hm
  · obtain ⟨_, cu, hc⟩ := L.rsep i e b he e1; rw [hc] at hm; cases hm

/-- The row of an entry's keys: what it differs from. -/
theorem neS (L : N2 w wr R G gc vm vdm dm va vdn dn N fa na sza sk) {t : Nat} {e : NE} {b : Nat} (ht : dn[t]? = some e) (h : e.sv.ownBlock = some b) :
    b ≠ R ∧ b ≠ G ∧ ¬ isB vm b ∧ vdm.ownBlock ≠ some b ∧ vdn.ownBlock ≠ some b ∧ ¬ isB va b ∧ (∀ (i : Nat) (f : NE), dn[i]? = some f → f.im ≠ some b) ∧ (∀ (i : Nat) (f : NE), dn[i]? = some f → f.sv.ownBlock = some b → i = t) := by
  obtain ⟨h1, cur, hm⟩ := L.rsep t e b ht h
  obtain ⟨cu2, hc2⟩ := L.rb.obj
  refine ⟨ne_obj hm hc2 (by simp), ne_obj hm L.box (by simp), fun e => ?_, fun e => ?_, fun e => ?_, fun e => ?_, fun i f hf e1 => ?_, fun i f hf e1 => L.rinj i t f e b hf ht e1 h⟩
  · obtain ⟨es, c, hc⟩ := L.m.isMap e; rw [hc] at hm; cases hm
  · obtain ⟨cu, hc⟩ := L.row.obj e; rw [hc] at hm; cases hm
  · obtain ⟨cu, hc⟩ := L.nrow.obj e; rw [hc] at hm; cases hm
  · obtain ⟨es, c, hc⟩ := L.a.isMap e; rw [hc] at hm; cases hm
  · obtain ⟨_, _, _, es, c, hc⟩ := L.sep i f b hf e1; rw [hc] at hm; cases hm
end N2
end Go.Proofs.Ybulkdlaa
