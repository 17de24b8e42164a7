/- A select of one send, with a default, as a law on the region that holds it. -/
import Derived.Conc.LoneSelect
import Derived.Tactics
namespace Go.Proofs.Ybulkdkyy
set_option linter.unusedVariables false
set_option linter.unusedSimpArgs false
open Go Go.Conc

section
variable {P : Program} {b : Frame} {a : Act} {k : List Item} {cs : List Frame} {w : World}

/-- An operation that is a communication, in whatever frame. -/
theorem stepG_comm_any {ops : Array Oper} {i : Nat} {rest : List Nat} {o : Oper} {cases : Array CommCase} {blocking : Bool} {shape : CommShape} {w' : World} (ho : ops[i]? = some o) (hw : Region.wanted o (yielded ops a.tmps) = true)
    (hr : (execOp a.eval o).run P w = .ok (.comm cases blocking shape) w') :
    ∃ es, stepG P true (G (b.at a (.inRegion ops (i :: rest) :: k)) cs) w = .comm (G (b.at a (.inRegion ops (i :: rest) :: k)) cs) cases blocking shape w' es := by
  rw [stepG_oper ho hw]
  simp [stepG.apply, hr, G, GStep.after]

theorem range_cons (n : Nat) : List.range (n + 1) = 0 :: List.range' 1 n := by rw [List.range_eq_range', List.range'_succ]

variable {Q : Exit → Act → World → Prop} {o : Oper} {l : List Oper} {id : Nat} {c cap s r : Nat} {buf : Array Value} {v z' : Value} {tm : Bool}

theorem wp_select_send_room (hg : o.guard = none) (hr : (execOp a.eval o).run P w = .ok (.comm #[scase c v z'] false .select) w) (hc : w.heap[c]? = some (.chan cap buf false s r tm)) (hroom : buf.size < cap)
    (h : wpList P (o :: l).toArray Q l (a.put o.dst (.tuple #[goInt 0, .bool false])) (w.setChan c cap (buf.push v) false (s + 1) r tm)) : (Code.region id (o :: l).toArray false).wp P Q a w := by
  intro b k cs
  have ho : (o :: l).toArray[0]? = some o := by simp
  have hw : Region.wanted o (yielded (o :: l).toArray a.tmps) = true := by simp [Region.wanted, hg]
  obtain ⟨es, hs⟩ := stepG_comm_any (P := P) (b := b) (a := a) (k := k) (cs := cs) (w := w) (rest := List.range' 1 l.length) ho hw hr
  have st := step_lone_select_send_room hs hc hroom
  rw [Frame.finish_at] at st
  have e2 : ((o :: l).toArray[0]?).bind (·.dst) = o.dst := by simp
  rw [e2] at st
  have hh : wpOps P (o :: l).toArray Q (List.range' 1 l.length) (a.put o.dst (.tuple #[goInt 0, .bool false])) (w.setChan c cap (buf.push v) false (s + 1) r tm) := by
    rw [wpOps_eq_wpList l 1 (fun j => by simp [Nat.add_comm])]; exact h
  obtain ⟨e, a', w', hq, harr⟩ := wp_ops _ _ _ hh b k cs
  refine ⟨e, a', w', hq, .of_steps (Steps.head step_region ?_) harr⟩
  have e3 : List.range (o :: l).toArray.size = 0 :: List.range' 1 l.length := by simp [range_cons]
  rw [e3]
  exact Steps.one st

theorem wp_select_send_full (hg : o.guard = none) (hr : (execOp a.eval o).run P w = .ok (.comm #[scase c v z'] false .select) w) (hc : w.heap[c]? = some (.chan cap buf false s r tm)) (hfull : cap ≤ buf.size)
    (h : wpList P (o :: l).toArray Q l (a.put o.dst (.tuple #[goInt (-1), .bool false])) w) : (Code.region id (o :: l).toArray false).wp P Q a w := by
  intro b k cs
  have ho : (o :: l).toArray[0]? = some o := by simp
  have hw : Region.wanted o (yielded (o :: l).toArray a.tmps) = true := by simp [Region.wanted, hg]
  obtain ⟨es, hs⟩ := stepG_comm_any (P := P) (b := b) (a := a) (k := k) (cs := cs) (w := w) (rest := List.range' 1 l.length) ho hw hr
  have st := step_lone_select_send_full hs hc hfull
  rw [Frame.finish_at] at st
  have e2 : ((o :: l).toArray[0]?).bind (·.dst) = o.dst := by simp
  rw [e2] at st
  have hh : wpOps P (o :: l).toArray Q (List.range' 1 l.length) (a.put o.dst (.tuple #[goInt (-1), .bool false])) w := by
    rw [wpOps_eq_wpList l 1 (fun j => by simp [Nat.add_comm])]; exact h
  obtain ⟨e, a', w', hq, harr⟩ := wp_ops _ _ _ hh b k cs
  refine ⟨e, a', w', hq, .of_steps (Steps.head step_region ?_) harr⟩
  have e3 : List.range (o :: l).toArray.size = 0 :: List.range' 1 l.length := by simp [range_cons]
  rw [e3]
  exact Steps.one st

/-- The channel: made with room for one, open. -/
def ChanOk (w : World) (c : Nat) : Prop := ∃ buf s r, w.heap[c]? = some (.chan 1 buf false s r false)

/-- Whichever way it goes: the channel is what it was, nothing else has turned. -/
theorem wp_select_send_any (hg : o.guard = none) (hr : (execOp a.eval o).run P w = .ok (.comm #[scase c v z'] false .select) w) (hc : ChanOk w c)
    (h : ∀ (n : Int) (w' : World), ChanOk w' c → w'.os = w.os → w'.tape = w.tape → w'.output = w.output → w'.heap.size = w.heap.size → (∀ b, b ≠ c → w'.heap[b]? = w.heap[b]?) → wpList P (o :: l).toArray Q l (a.put o.dst (.tuple #[.int .i64 n, .bool false])) w') :
    (Code.region id (o :: l).toArray false).wp P Q a w := by
  obtain ⟨buf, s, r, hb⟩ := hc
  by_cases hroom : buf.size < 1
  · refine wp_select_send_room hg hr hb hroom (h 0 _ ⟨_, _, _, heap_setChan w c 1 _ false _ _ false (Array.getElem?_eq_some_iff.1 hb).1⟩ rfl rfl rfl (by simp [World.setChan]) (fun b hne => by simp only [World.setChan]; rw [Array.getElem?_setIfInBounds_ne (fun e => hne e.symm)]))
  · exact wp_select_send_full hg hr hb (by omega) (h (-1) w ⟨_, _, _, hb⟩ rfl rfl rfl rfl (fun _ _ => rfl))
end
end Go.Proofs.Ybulkdkyy
