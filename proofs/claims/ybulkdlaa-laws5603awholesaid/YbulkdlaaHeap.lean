import Derived.Test.YbulkdlaaFns
import Derived.Laws.StructEq
import Derived.Laws.OwnMore
import Derived.Deep.OwnRows
import Derived.Deep.AppendLies
import Derived.Maps.AppendAt
import Derived.OwnWalk
namespace Go.Proofs.Ybulkdlaa
set_option linter.unusedVariables false
set_option linter.unusedSimpArgs false
set_option linter.unusedSectionVars false
open Go.RowKit
open Go.Maps (Keyed)

/-! Equality of keys. -/
theorem str_dec (a b : ByteArray) : (a.toList == b.toList) = decide (a = b) := by
  rw [ByteArray.toList_eq, ByteArray.toList_eq]
  by_cases h : a = b
  · subst h; simp
  · rw [decide_eq_false h, beq_eq_false_iff_ne]
    exact fun e => h (WideShapes.bytes_inj e)

theorem eqIn51 (x y : RK) (w : World) : (Op.equalIn 10000 51 (kv x) (kv y)).run Yba.prog w = .ok (decide (x = y)) w := by
  obtain ⟨a, b, c⟩ := x
  obtain ⟨a', b', c'⟩ := y
  have hf : Yba.prog.fieldsOf 51 = Yba.prog.fieldsOf 51 := rfl
  have hu : Yba.prog.underlying 51 = some (.struct (Yba.prog.fieldsOf 51)) := by unfold Program.fieldsOf; rw [Yba.underlying51]
  unfold kv
  rw [run_equalIn_struct w 9999 51 _ _ hu (by kernel_rfl)]
  simp only [Program.fieldsOf, Yba.underlying51]
  by_cases h1 : a = a' <;> by_cases h2 : b = b' <;> by_cases h3 : c = c' <;> simp [Op.eqFields, part, sizeOf, typeInfo, go_sem, Yba.underlying49, Yba.underlying9, str_dec, h1, h2, h3]

theorem eql51 (x y : RK) (w : World) : (binOp .eql 51 (kv x) (kv y)).run Yba.prog w = .ok (.bool (decide (x = y))) w := by
  have h := eqIn51 x y w
  unfold kv at h ⊢
  rw [run_eql_struct, h]; rfl
theorem neq51 (x y : RK) (w : World) : (binOp .neq 51 (kv x) (kv y)).run Yba.prog w = .ok (.bool (!decide (x = y))) w := by
  have h := eqIn51 x y w
  unfold kv at h ⊢
  rw [run_neq_struct, h]; rfl

/-! Rows of structs. -/
section
variable {β : Type} {enc : β → List Value} {sz : Nat}

theorem fl_length (h : ∀ b, (enc b).length = sz) : ∀ l : List β, (l.flatMap enc).length = l.length * sz
  | [] => by simp
  | b :: r => by rw [List.flatMap_cons, List.length_append, h b, fl_length h r, List.length_cons, Nat.add_mul, Nat.one_mul, Nat.add_comm]

theorem fl_get (h : ∀ b, (enc b).length = sz) : ∀ (l : List β) (i r : Nat) (b : β), l[i]? = some b → r < sz → (l.flatMap enc)[i * sz + r]? = (enc b)[r]?
  | [], i, r, b, hi, hr => by simp at hi
  | a :: l, 0, r, b, hi, hr => by
    simp at hi; subst hi
    rw [List.flatMap_cons, Nat.zero_mul, Nat.zero_add, List.getElem?_append_left (by rw [h]; exact hr)]
  | a :: l, i + 1, r, b, hi, hr => by
    have e : (i + 1) * sz + r - (enc a).length = i * sz + r := by rw [h, Nat.add_mul, Nat.one_mul]; omega
    rw [List.flatMap_cons, List.getElem?_append_right (by rw [h, Nat.add_mul, Nat.one_mul]; omega), e]
    exact fl_get h l i r b (by simpa using hi) hr

theorem fl_set (h : ∀ b, (enc b).length = sz) : ∀ (l : List β) (i r : Nat) (b b' : β) (v : Value), l[i]? = some b → r < sz → enc b' = (enc b).set r v → (l.flatMap enc).set (i * sz + r) v = (l.set i b').flatMap enc
  | [], i, r, b, b', v, hi, hr, he => by simp at hi
  | a :: l, 0, r, b, b', v, hi, hr, he => by
    simp at hi; subst hi
    rw [List.flatMap_cons, Nat.zero_mul, Nat.zero_add, List.set_append_left _ _ (by rw [h]; exact hr), ← he]
    rfl
  | a :: l, i + 1, r, b, b', v, hi, hr, he => by
    have e : (i + 1) * sz + r - (enc a).length = i * sz + r := by rw [h, Nat.add_mul, Nat.one_mul]; omega
    rw [List.flatMap_cons, List.set_append_right _ _ (by rw [h, Nat.add_mul, Nat.one_mul]; omega), e, fl_set h l i r b b' v (by simpa using hi) hr he]
    rfl

/-- The slice v owns a row that holds the list l, each element written by enc in sz cells. -/
def OR (enc : β → List Value) (sz : Nat) (w : World) (e : TypeId) (v : Value) (l : List β) : Prop := w.ownsRow 0 e sz v l.length (l.flatMap enc)

variable {w w' : World} {e : TypeId} {v : Value} {l : List β}

theorem OR.nil (w : World) (e : TypeId) : OR enc sz w e (.slice none 0 0) [] := World.ownsRow_nil _ _ _ _

theorem OR.slice (h : OR enc sz w e v l) : ∃ a c, v = .slice a l.length c := by
  rcases h.2 with ⟨hv, h0⟩ | ⟨g, cap, cur, hv, _⟩
  · exact ⟨none, 0, by rw [hv, h0]⟩
  · exact ⟨_, _, hv⟩

theorem OR.form (h : OR enc sz w e v l) (hl : 0 < l.length) : ∃ g cap, v = .slice (some ⟨g, 0, none⟩) l.length cap := by
  rcases h.2 with ⟨hv, h0⟩ | ⟨g, cap, cur, hv, _⟩
  · omega
  · exact ⟨_, _, hv⟩

theorem OR.obj (h : OR enc sz w e v l) {g : Nat} (hg : v.ownBlock = some g) : ∃ cur, w.heap[g]? = some (.cells cur e (0, 0)) := by
  rcases h.2 with ⟨hv, h0⟩ | ⟨g', cap, cur, hv, _, hb, _⟩
  · rw [hv] at hg; simp [Value.ownBlock] at hg
  · rw [hv] at hg; simp [Value.ownBlock] at hg; subst hg; exact ⟨cur, hb⟩

theorem OR.block (h : OR enc sz w e v l) (hb : ∀ g, v.ownBlock = some g → w'.heap[g]? = w.heap[g]?) : OR enc sz w' e v l := by
  refine ⟨h.1, ?_⟩
  rcases h.2 with h0 | ⟨g, cap, cur, hv, hb0, hg, r⟩
  · exact .inl h0
  · exact .inr ⟨g, cap, cur, hv, hb0, (hb g (by rw [hv]; rfl)).trans hg, r⟩

theorem OR.lt (h : OR enc sz w e v l) {g : Nat} (hg : v.ownBlock = some g) : g < w.heap.size := (World.ownsRow.lt h g hg).2

theorem OR.cell (h : OR enc sz w e v l) (he : ∀ b, (enc b).length = sz) {g cap : Nat} (hv : v = .slice (some ⟨g, 0, none⟩) l.length cap) {i r : Nat} {b : β} (hi : l[i]? = some b) (hr : r < sz) : w.cell? ⟨g, i * sz + r, none⟩ = (enc b)[r]? := by
  subst hv
  have hil : i < l.length := (List.getElem?_eq_some_iff.1 hi).1
  have hlt : i * sz + r < l.length * sz := by
    have : (i + 1) * sz ≤ l.length * sz := Nat.mul_le_mul_right _ hil
    rw [Nat.add_mul, Nat.one_mul] at this; omega
  rw [World.ownsRow.cellAt h _ hlt]
  exact fl_get he l i r b hi hr

theorem OR.frozen (h : OR enc sz w e v l) {g cap : Nat} (hv : v = .slice (some ⟨g, 0, none⟩) l.length cap) (j : Nat) : w.frozen? ⟨g, j, none⟩ = false := by
  subst hv
  exact World.ownsRow.frozenAt h j

theorem OR.store (h : OR enc sz w e v l) (he : ∀ b, (enc b).length = sz) {g cap : Nat} (hv : v = .slice (some ⟨g, 0, none⟩) l.length cap) {i r : Nat} {b b' : β} {u : Value} (hi : l[i]? = some b) (hr : r < sz) (hb : enc b' = (enc b).set r u) :
    OR enc sz (w.setCell ⟨g, i * sz + r, none⟩ u) e v (l.set i b') := by
  subst hv
  have := (World.ownsRow.stored h (i * sz + r) u).1
  unfold OR
  rw [fl_set he l i r b b' u hi hr hb] at this
  rw [List.length_set]
  exact this

theorem OR.snoc {b : β} {v' : Value} (h : w'.ownsRow 0 e sz v' (l.length + 1) (l.flatMap enc ++ enc b)) : OR enc sz w' e v' (l ++ [b]) := by
  unfold OR
  rw [List.length_append, List.flatMap_append]
  simpa using h
end

/-! A map variable: nil or a block. -/
section
variable {α : Type} [DecidableEq α] {κ : α → Value} {k : TypeId} {w w' : World} {v : Value} {n sz : Nat} {f : α → Option Value}

def MO (κ : α → Value) (k : TypeId) (w : World) (v : Value) (n : Nat) (f : α → Option Value) (sz : Nat) : Prop :=
  (v = .map none ∧ (∀ a, f a = none) ∧ sz = 0) ∨ ∃ b, v = .map (some b) ∧ MG κ k w b n f sz

/-- What a write through the map variable turns. -/
def Turn (w w' : World) (v : Value) : Prop := w' = w ∨ ∃ b, v = .map (some b) ∧ w.mapTurned w' b

theorem MO.block (h : MO κ k w v n f sz) (hb : ∀ b, v = .map (some b) → w'.heap[b]? = w.heap[b]?) : MO κ k w' v n f sz := by
  rcases h with h | ⟨b, rfl, h⟩
  · exact .inl h
  · exact .inr ⟨b, rfl, h.block (hb b rfl)⟩

theorem MO.lt (h : MO κ k w v n f sz) {b : Nat} (hv : v = .map (some b)) : b < w.heap.size := by
  rcases h with ⟨rfl, _⟩ | ⟨b', rfl, h⟩
  · cases hv
  · cases hv; exact h.lt

theorem MO.isMap (h : MO κ k w v n f sz) {b : Nat} (hv : v = .map (some b)) : ∃ es c, w.heap[b]? = some (.map es c) := by
  rcases h with ⟨rfl, _⟩ | ⟨b', rfl, h⟩
  · cases hv
  · cases hv; exact h.isMap

theorem MO.form (h : MO κ k w v n f sz) : ∃ o, v = .map o := by
  rcases h with ⟨rfl, _⟩ | ⟨b, rfl, _⟩
  · exact ⟨none, rfl⟩
  · exact ⟨_, rfl⟩

theorem MO.look (h : MO κ k w v n f sz) (K : Keyed Yba.prog k) {t e : TypeId} (ht : Yba.prog.underlying t = some (.map k e)) {z : Value} (hz : (zeroValue e).run Yba.prog w = .ok z w) {s : α} {kl : Lit} (hs : keyOf Yba.prog k (κ s) = some kl) :
    (Instr.lookup t v (κ s) true).run Yba.prog w = .ok (.tuple #[(f s).getD z, .bool (f s).isSome]) w := by
  rcases h with ⟨rfl, hf, _⟩ | ⟨b, rfl, h⟩
  · rw [Maps.look_nil true K ht hz hs, hf s]; rfl
  · exact h.look K ht hz hs

theorem MO.look1 (h : MO κ k w v n f sz) (K : Keyed Yba.prog k) {t e : TypeId} (ht : Yba.prog.underlying t = some (.map k e)) {z : Value} (hz : (zeroValue e).run Yba.prog w = .ok z w) {s : α} {kl : Lit} (hs : keyOf Yba.prog k (κ s) = some kl) :
    (Instr.lookup t v (κ s) false).run Yba.prog w = .ok ((f s).getD z) w := by
  rcases h with ⟨rfl, hf, _⟩ | ⟨b, rfl, h⟩
  · rw [Maps.look_nil false K ht hz hs, hf s]; rfl
  · exact h.look1 K ht hz hs

theorem MO.len (h : MO κ k w v n f sz) {t e : TypeId} (ht : Yba.prog.underlying t = some (.map k e)) (ty : TypeId) :
    (Builtin.len_ #[t] ty #[v]).run Yba.prog w = .ok (.int .i64 sz) w := by
  rcases h with ⟨rfl, hf, rfl⟩ | ⟨b, rfl, h⟩
  · exact Maps.len_nil ht ty
  · exact h.len ht ty

theorem MO.drop (h : MO κ k w v n f sz) (K : Keyed Yba.prog k) (hκ : ∀ a b, κ a = κ b → a = b) {t e : TypeId} (ht : Yba.prog.underlying t = some (.map k e)) {s : α} {kl : Lit} (hs : keyOf Yba.prog k (κ s) = some kl) (ty : TypeId) :
    ∃ w', (Builtin.delete_ #[t, k] ty #[v, κ s]).run Yba.prog w = .ok (.tuple #[]) w' ∧ MO κ k w' v n (delM f s) (if (f s).isSome then sz - 1 else sz) ∧ Turn w w' v := by
  rcases h with ⟨rfl, hf, rfl⟩ | ⟨b, rfl, h⟩
  · refine ⟨w, Maps.drop_nil K ht hs ty, .inl ⟨rfl, fun a => ?_, ?_⟩, .inl rfl⟩
    · unfold delM; split <;> simp [hf]
    · simp [hf]
  · obtain ⟨w', h1, h2, h3⟩ := h.drop K hκ ht hs ty
    exact ⟨w', h1, .inr ⟨b, rfl, h2⟩, .inr ⟨b, rfl, h3⟩⟩

theorem turned_block {b : Nat} (h : w.mapTurned w' b) : w'.heap.size = w.heap.size ∧ w'.tape = w.tape ∧ w'.os = w.os ∧ w'.output = w.output ∧ ∀ x, x ≠ b → w'.heap[x]? = w.heap[x]? := by
  obtain ⟨es, clock, es', clock', hb, rfl⟩ := h
  exact ⟨by simp [ChangeMaps.setBlock], rfl, rfl, rfl, fun x hx => ChangeMaps.heap_setBlock_other hb _ hx⟩

theorem Turn.parts (h : Turn w w' v) : w'.heap.size = w.heap.size ∧ w'.tape = w.tape ∧ w'.os = w.os ∧ w'.output = w.output ∧ ∀ x, v ≠ .map (some x) → w'.heap[x]? = w.heap[x]? := by
  rcases h with rfl | ⟨b, rfl, h⟩
  · exact ⟨rfl, rfl, rfl, rfl, fun _ _ => rfl⟩
  · obtain ⟨h1, h2, h3, h4, h5⟩ := turned_block h
    exact ⟨h1, h2, h3, h4, fun x hx => h5 x (fun e => hx (by rw [e]))⟩
end

/-! The records' box. -/
def RB (w : World) (R : Nat) (vm va : Value) : Prop :=
  ∃ f : Nat → Value, w.rowIs R 47 8 f ∧ f 2 = vm ∧ f 3 = va ∧ f 4 = .int .u64 0 ∧ f 5 = .int .i64 0 ∧ f 6 = .pointer none ∧ f 7 = .nilIface
namespace RB
variable {w w' : World} {R : Nat} {vm va : Value}
theorem m (h : RB w R vm va) : w.cell? ⟨R, 2, none⟩ = some vm := by obtain ⟨f, hr, h1, _⟩ := h; rw [hr.cell (by omega), h1]
theorem a (h : RB w R vm va) : w.cell? ⟨R, 3, none⟩ = some va := by obtain ⟨f, hr, _, h1, _⟩ := h; rw [hr.cell (by omega), h1]
theorem t0 (h : RB w R vm va) : w.cell? ⟨R, 4, none⟩ = some (.int .u64 0) := by obtain ⟨f, hr, _, _, h1, _⟩ := h; rw [hr.cell (by omega), h1]
theorem t1 (h : RB w R vm va) : w.cell? ⟨R, 5, none⟩ = some (.int .i64 0) := by obtain ⟨f, hr, _, _, _, h1, _⟩ := h; rw [hr.cell (by omega), h1]
theorem t2 (h : RB w R vm va) : w.cell? ⟨R, 6, none⟩ = some (.pointer none) := by obtain ⟨f, hr, _, _, _, _, h1, _⟩ := h; rw [hr.cell (by omega), h1]
theorem s (h : RB w R vm va) : w.cell? ⟨R, 7, none⟩ = some .nilIface := by obtain ⟨f, hr, _, _, _, _, _, h1⟩ := h; rw [hr.cell (by omega), h1]
theorem frozen (h : RB w R vm va) (o : Nat) : w.frozen? ⟨R, o, none⟩ = false := by obtain ⟨f, hr, _⟩ := h; exact hr.frozen o
theorem lt (h : RB w R vm va) : R < w.heap.size := by obtain ⟨f, hr, _⟩ := h; exact hr.lt
theorem block (h : RB w R vm va) (e : w'.heap[R]? = w.heap[R]?) : RB w' R vm va := by obtain ⟨f, hr, r⟩ := h; exact ⟨f, hr.of_block e, r⟩
theorem obj (h : RB w R vm va) : ∃ cur, w.heap[R]? = some (.cells cur 47) := by obtain ⟨f, ⟨cur, hc, _⟩, _⟩ := h; exact ⟨cur, hc⟩
theorem setM (h : RB w R vm va) (u : Value) : RB (w.setCell ⟨R, 2, none⟩ u) R u va := by
  obtain ⟨f, hr, h1, h2, h3, h4, h5, h6⟩ := h
  exact ⟨_, hr.set 2 u, by simp, by simpa using h2, by simpa using h3, by simpa using h4, by simpa using h5, by simpa using h6⟩
theorem setA (h : RB w R vm va) (u : Value) : RB (w.setCell ⟨R, 3, none⟩ u) R vm u := by
  obtain ⟨f, hr, h1, h2, h3, h4, h5, h6⟩ := h
  exact ⟨_, hr.set 3 u, by simpa using h1, by simp, by simpa using h3, by simpa using h4, by simpa using h5, by simpa using h6⟩
end RB
end Go.Proofs.Ybulkdlaa
