import Derived.Test.YbulkdlaaRows
import Derived.WalkKit
import Derived.WalkSpells
import Derived.WalkLawsBesides
import Derived.Handy
import Derived.Maps.Own
import Derived.Maps.OwnSet
import Derived.DeepKeys4
namespace Go.Proofs.Ybulkdlaa
set_option linter.unusedVariables false
set_option linter.unusedSimpArgs false
set_option linter.unusedSectionVars false
open Go.RowKit
open Go.Maps (Keyed)

/-- Every element reads as itself. -/
def Rv (v : Value) : Option (DataW Value × List MemPlace) := some (.held v, [])

/-- Block b is a map whose entries are those of f (at the keys κ a), sz of them, at most n. -/
def MG {α : Type} (κ : α → Value) (k : TypeId) (w : World) (b n : Nat) (f : α → Option Value) (sz : Nat) : Prop :=
  ∃ D : DataW Value, w.ownsMap Yba.prog k Rv b n D ∧ sz = Maps.size D ∧ ∀ (a : α) (kl : Lit), keyOf Yba.prog k (κ a) = some kl → Maps.has D kl = (f a).isSome ∧ ∀ z, D.atKey kl (.held z) = .held ((f a).getD z)

section
variable {α : Type} [DecidableEq α] {κ : α → Value} {k : TypeId} {w w' : World} {b n sz : Nat} {f : α → Option Value}

theorem MG.made (κ : α → Value) (k : TypeId) (w : World) : MG κ k (w.alloc (.map #[] 0)) w.heap.size 0 (fun _ => none) 0 :=
  ⟨.map [], World.ownsMap_made _ _ _ _, rfl, fun v kl _ => ⟨rfl, fun z => rfl⟩⟩

theorem MG.block (h : MG κ k w b n f sz) (e : w'.heap[b]? = w.heap[b]?) : MG κ k w' b n f sz := by
  obtain ⟨D, ⟨es, clock, hb, r⟩, h2⟩ := h
  exact ⟨D, ⟨es, clock, e.trans hb, r⟩, h2⟩

theorem MG.lt (h : MG κ k w b n f sz) : b < w.heap.size := by
  obtain ⟨D, h1, _⟩ := h
  exact h1.lt

theorem MG.isMap (h : MG κ k w b n f sz) : ∃ es c, w.heap[b]? = some (.map es c) := by
  obtain ⟨D, ⟨es, clock, hb, _⟩, _⟩ := h
  exact ⟨es, clock, hb⟩

theorem MG.size_le (h : MG κ k w b n f sz) : sz ≤ n := by
  obtain ⟨D, h1, rfl, _⟩ := h
  exact h1.size_le

theorem MG.mono (h : MG κ k w b n f sz) {n' : Nat} (hn : n ≤ n') : MG κ k w b n' f sz := by
  obtain ⟨D, h1, h2⟩ := h
  exact ⟨D, h1.mono hn, h2⟩

theorem MG.congr (h : MG κ k w b n f sz) {f' : α → Option Value} (e : ∀ a, f' a = f a) : MG κ k w b n f' sz := by
  rw [show f' = f from funext e]; exact h

def updM (f : α → Option Value) (s : α) (v : Value) : α → Option Value := fun t => if t = s then some v else f t
def delM (f : α → Option Value) (s : α) : α → Option Value := fun t => if t = s then none else f t

theorem MG.store (h : MG κ k w b n f sz) (K : Keyed Yba.prog k) (hκ : ∀ a b, κ a = κ b → a = b) {t e : TypeId} (ht : Yba.prog.underlying t = some (.map k e)) (hn : n < maxLen) {s : α} {kl : Lit} (hs : keyOf Yba.prog k (κ s) = some kl) (v : Value) :
    ∃ w', (Instr.mapUpdate t (.map (some b)) (κ s) v).run Yba.prog w = .ok () w' ∧ MG κ k w' b (n + 1) (updM f s v) (if (f s).isSome then sz else sz + 1) ∧ w.mapTurned w' b := by
  obtain ⟨D, h1, rfl, h2⟩ := h
  obtain ⟨w', hr, ho, hT⟩ := h1.store K ht hn hs (show Rv v = some (.held v, []) from rfl)
  have hk := K.key hs
  refine ⟨w', hr, ⟨_, ho, ?_, fun u l hu => ?_⟩, hT⟩
  · rw [Maps.size_put (h1.tidy K), (h2 s kl hs).1]
  · by_cases e : u = s
    · subst e
      rw [hs] at hu
      cases hu
      refine ⟨by rw [Maps.has_put_same h1.isMap hk]; simp [updM], fun z => ?_⟩
      rw [Maps.atKey_put_same h1.isMap hk]; simp [updM]
    · have hne : l ≠ kl := fun h => e (hκ _ _ (K.inj hu (by rw [h]; exact hs)))
      refine ⟨by rw [Maps.has_put_other hne, (h2 u l hu).1]; simp [updM, e], fun z => ?_⟩
      rw [Maps.atKey_put_other hne, (h2 u l hu).2]; simp [updM, e]

theorem MG.drop (h : MG κ k w b n f sz) (K : Keyed Yba.prog k) (hκ : ∀ a b, κ a = κ b → a = b) {t e : TypeId} (ht : Yba.prog.underlying t = some (.map k e)) {s : α} {kl : Lit} (hs : keyOf Yba.prog k (κ s) = some kl) (ty : TypeId) :
    ∃ w', (Builtin.delete_ #[t, k] ty #[.map (some b), κ s]).run Yba.prog w = .ok (.tuple #[]) w' ∧ MG κ k w' b n (delM f s) (if (f s).isSome then sz - 1 else sz) ∧ w.mapTurned w' b := by
  obtain ⟨D, h1, rfl, h2⟩ := h
  obtain ⟨w', hr, ho, hT⟩ := h1.drop K ht hs ty
  have hk := K.key hs
  refine ⟨w', hr, ⟨_, ho, ?_, fun u l hu => ?_⟩, hT⟩
  · have := Maps.size_del (k := kl) (h1.tidy K)
    rw [(h2 s kl hs).1] at this
    cases hf : (f s).isSome with
    | true => rw [hf] at this; simp at this ⊢; omega
    | false => rw [hf] at this; simp at this ⊢; omega
  · by_cases e : u = s
    · subst e
      rw [hs] at hu
      cases hu
      refine ⟨by rw [Maps.has_del_same]; simp [delM], fun z => ?_⟩
      rw [Maps.atKey_del_same]; simp [delM]
    · have hne : l ≠ kl := fun h => e (hκ _ _ (K.inj hu (by rw [h]; exact hs)))
      refine ⟨by rw [Maps.has_del_other hne, (h2 u l hu).1]; simp [delM, e], fun z => ?_⟩
      rw [Maps.atKey_del_other hne, (h2 u l hu).2]; simp [delM, e]

theorem MG.look (h : MG κ k w b n f sz) (K : Keyed Yba.prog k) {t e : TypeId} (ht : Yba.prog.underlying t = some (.map k e)) {z : Value} (hz : (zeroValue e).run Yba.prog w = .ok z w) {s : α} {kl : Lit} (hs : keyOf Yba.prog k (κ s) = some kl) :
    (Instr.lookup t (.map (some b)) (κ s) true).run Yba.prog w = .ok (.tuple #[(f s).getD z, .bool (f s).isSome]) w := by
  obtain ⟨D, h1, rfl, h2⟩ := h
  obtain ⟨v, ps, hr, hv⟩ := h1.look_ok (z := z) (zd := .held z) (zp := []) K ht hz rfl hs
  rw [hr, (h2 s kl hs).1]
  rw [(h2 s kl hs).2] at hv
  simp [Rv] at hv
  rw [hv.1]

theorem MG.look1 (h : MG κ k w b n f sz) (K : Keyed Yba.prog k) {t e : TypeId} (ht : Yba.prog.underlying t = some (.map k e)) {z : Value} (hz : (zeroValue e).run Yba.prog w = .ok z w) {s : α} {kl : Lit} (hs : keyOf Yba.prog k (κ s) = some kl) :
    (Instr.lookup t (.map (some b)) (κ s) false).run Yba.prog w = .ok ((f s).getD z) w := by
  obtain ⟨D, h1, rfl, h2⟩ := h
  obtain ⟨v, ps, hr, hv⟩ := h1.lookup (z := z) (zd := .held z) (zp := []) K ht hz rfl hs
  rw [hr]
  rw [(h2 s kl hs).2] at hv
  simp [Rv] at hv
  rw [hv.1]

theorem MG.len (h : MG κ k w b n f sz) {t e : TypeId} (ht : Yba.prog.underlying t = some (.map k e)) (ty : TypeId) :
    (Builtin.len_ #[t] ty #[.map (some b)]).run Yba.prog w = .ok (.int .i64 sz) w := by
  obtain ⟨D, h1, rfl, h2⟩ := h
  exact h1.len ht ty
end

/-! The two key types. -/
theorem laidOut : laidOutB Yba.prog = true := by kernel_rfl
theorem row51 : 51 < Yba.prog.types.size := of_decide_eq_true (by kernel_rfl)
theorem wide51 : (match Yba.prog.underlying 51 with | some (.array _ _) | some (.struct _) => true | _ => false) = true := by rw [Yba.underlying51]
theorem keyed51 : Keyed Yba.prog 51 := Keyed.of_law (deep_law_laid laidOut (m := 3) (by omega) row51 (by kernel_rfl) wide51)
theorem keyed9 : Keyed Yba.prog 9 := Maps.string_keyed Yba.underlying9

/-- A record's key: space, namespace, key. -/
abbrev RK := ByteArray × ByteArray × ByteArray
def kv (x : RK) : Value := .agg #[.string x.1, .string x.2.1, .string x.2.2]
theorem kv_inj (a b : RK) (h : kv a = kv b) : a = b := by
  obtain ⟨a1, a2, a3⟩ := a
  obtain ⟨b1, b2, b3⟩ := b
  simp [kv] at h
  simp [h]
theorem str_inj (a b : ByteArray) (h : Value.string a = .string b) : a = b := by simpa using h

def fits (x : RK) : Prop := x.1.size ≤ maxLen ∧ x.2.1.size ≤ maxLen ∧ x.2.2.size ≤ maxLen

theorem key_of9 (s : ByteArray) (hs : s.size ≤ maxLen) : keyOf Yba.prog 9 (.string s) = some (.string s.data.toList) := by
  simp [keyOf, mapKey, Yba.underlying9, hs]

theorem cells51 : Yba.prog.cellsOf 51 = 3 := by kernel_rfl
theorem cells49 : Yba.prog.cellsOf 49 = 1 := by kernel_rfl
theorem cells9 : Yba.prog.cellsOf 9 = 1 := by kernel_rfl

theorem key_of51 (x : RK) (h : fits x) : ∃ kl, keyOf Yba.prog 51 (kv x) = some kl := by
  have h1 : Yba.prog.keyType 51 = true := by kernel_rfl
  obtain ⟨m, hm⟩ : ∃ m, Yba.prog.types.size = m + 1 := ⟨Yba.prog.types.size - 1, by have := row51; omega⟩
  obtain ⟨a, b, c⟩ := x
  obtain ⟨ha, hb, hc⟩ := h
  simp only at ha hb hc
  unfold keyOf
  rw [hm, Yba.underlying51]
  simp [h1, kv, Value.formed, Yba.underlying51, cells51, Value.cells, Program.keyLits, cells49, cells9, Yba.underlying49, Yba.underlying9, ha, hb, hc]
end Go.Proofs.Ybulkdlaa
