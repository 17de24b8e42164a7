import Derived.Test.YbulkdkzmFmtCards
import Derived.WalkKit
import Derived.WalkSpells
import Derived.WalkLawsBesides
import Derived.Handy
import Derived.Maps.Own
import Derived.Maps.OwnSet
import Derived.Laws.IdiomStrings
namespace Go.Proofs.YbulkdkzmFmt
set_option linter.unusedVariables false
set_option linter.unusedSimpArgs false
open Go.RowKit

/-- Every element reads as itself. -/
def Rv (v : Value) : Option (DataW Value × List MemPlace) := some (.held v, [])

def key (s : ByteArray) : Lit := .string s.data.toList
theorem key_inj {s t : ByteArray} (h : key s = key t) : s = t := by
  simp only [key, Lit.string.injEq] at h
  cases s; cases t
  simp at h
  rw [h]
theorem key_lit (s : ByteArray) : WideAt.IsKeyLit (key s) := by
  unfold key
  trivial

/-- Block b is a map whose entries are those of f; at most n of them. -/
def MF (w : World) (b n : Nat) (f : ByteArray → Option Value) (sz : Nat) : Prop :=
  ∃ D : DataW Value, w.ownsMap Ybaf.prog 9 Rv b n D ∧ sz = Maps.size D ∧ ∀ s : ByteArray, Maps.has D (key s) = (f s).isSome ∧ ∀ z, D.atKey (key s) (.held z) = .held ((f s).getD z)

theorem key_of (s : ByteArray) (hs : s.size ≤ maxLen) : keyOf Ybaf.prog 9 (.string s) = some (key s) := by
  simp [keyOf, mapKey, Ybaf.underlying9, hs, key]

theorem MF.made (w : World) : MF (w.alloc (.map #[] 0)) w.heap.size 0 (fun _ => none) 0 := by
  refine ⟨.map [], World.ownsMap_made _ _ _ _, rfl, fun s => ⟨rfl, fun z => rfl⟩⟩

theorem MF.block {w w' : World} {b n : Nat} {f : ByteArray → Option Value} {sz : Nat} (h : MF w b n f sz) (e : w'.heap[b]? = w.heap[b]?) : MF w' b n f sz := by
  obtain ⟨D, ⟨es, clock, hb, r⟩, h2⟩ := h
  exact ⟨D, ⟨es, clock, e.trans hb, r⟩, h2⟩

theorem MF.lt {w : World} {b n : Nat} {f : ByteArray → Option Value} {sz : Nat} (h : MF w b n f sz) : b < w.heap.size := by
  obtain ⟨D, h1, _⟩ := h
  exact h1.lt

theorem MF.size_le {w : World} {b n : Nat} {f : ByteArray → Option Value} {sz : Nat} (h : MF w b n f sz) : sz ≤ n := by
  obtain ⟨D, h1, rfl, _⟩ := h
  exact h1.size_le

def updM (f : ByteArray → Option Value) (s : ByteArray) (v : Value) : ByteArray → Option Value := fun t => if t = s then some v else f t

theorem MF.store {w : World} {b n : Nat} {f : ByteArray → Option Value} {sz : Nat} (h : MF w b n f sz) (hn : n < maxLen) (s : ByteArray) (hs : s.size ≤ maxLen) (v : Value) :
    ∃ w', (Instr.mapUpdate 24 (.map (some b)) (.string s) v).run Ybaf.prog w = .ok () w' ∧ (∃ sz', MF w' b (n + 1) (updM f s v) sz') ∧ w.mapTurned w' b := by
  obtain ⟨D, h1, rfl, h2⟩ := h
  obtain ⟨w', hr, ho, ht⟩ := h1.store (Maps.string_keyed Ybaf.underlying9) Ybaf.underlying24 hn (key_of s hs) (show Rv v = some (.held v, []) from rfl)
  refine ⟨w', hr, ⟨_, _, ho, rfl, fun t => ?_⟩, ht⟩
  by_cases e : t = s
  · subst e
    refine ⟨by rw [Maps.has_put_same h1.isMap (key_lit _)]; simp [updM], fun z => ?_⟩
    rw [Maps.atKey_put_same h1.isMap (key_lit _)]; simp [updM]
  · have hne : key t ≠ key s := fun h => e (key_inj h)
    refine ⟨by rw [Maps.has_put_other hne, (h2 t).1]; simp [updM, e], fun z => ?_⟩
    rw [Maps.atKey_put_other hne, (h2 t).2]; simp [updM, e]

theorem MF.look {w : World} {b n : Nat} {f : ByteArray → Option Value} {sz : Nat} (h : MF w b n f sz) (s : ByteArray) (hs : s.size ≤ maxLen) :
    (Instr.lookup 24 (.map (some b)) (.string s) true).run Ybaf.prog w = .ok (.tuple #[(f s).getD (.slice none 0 0), .bool (f s).isSome]) w := by
  obtain ⟨D, h1, rfl, h2⟩ := h
  obtain ⟨v, ps, hr, hv⟩ := h1.look_ok (e := 26) (z := .slice none 0 0) (zd := .held (.slice none 0 0)) (zp := []) (Maps.string_keyed Ybaf.underlying9) Ybaf.underlying24 (by kernel_rfl) rfl (key_of s hs)
  rw [hr, (h2 s).1]
  rw [(h2 s).2] at hv
  simp [Rv] at hv
  rw [hv.1]

theorem MF.len {w : World} {b n : Nat} {f : ByteArray → Option Value} {sz : Nat} (h : MF w b n f sz) (ty : TypeId) :
    (Builtin.len_ #[24] ty #[.map (some b)]).run Ybaf.prog w = .ok (.int .i64 sz) w := by
  obtain ⟨D, h1, rfl, h2⟩ := h
  exact h1.len Ybaf.underlying24 ty
end Go.Proofs.YbulkdkzmFmt
