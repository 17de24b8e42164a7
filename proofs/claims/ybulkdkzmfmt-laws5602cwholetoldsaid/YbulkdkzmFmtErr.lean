import Derived.Test.YbulkdkzmFmtMap
import Derived.Stop.CallBack
import Derived.Stop.IfaceNil
import Derived.Maps.AppendAt
import Derived.OwnWalk
import Derived.Deep.AppendLies
import Derived.Deep.OwnRows
import GoSem.ClaimData
namespace Go.Proofs.YbulkdkzmFmt
set_option linter.unusedVariables false
set_option linter.unusedSimpArgs false
open Go.RowKit Go.Extern.Stop Go.Stop Go.Extern

theorem call7 (args : Array Value) (w : World) : (callFunc 7 args).run Ybaf.prog w = (FmtCalls.errorf #[9, 38] #[32] args).run Ybaf.prog w :=
  run_callFunc_next Ybaf.func7 (by kernel_rfl) (by kernel_rfl) (by kernel_rfl) args w
theorem guard (name : String) (w : World) : (FmtStop.guard name).run Ybaf.prog w = .ok () w := by kernel_rfl
theorem nextTurns : Extern.next FmtCalls.turnsRow = some (FmtCalls.begun #[] #[]) := by kernel_rfl
def fm : ByteArray := ⟨#[37, 115, 58, 32, 37, 115, 32, 105, 115, 32, 109, 105, 115, 115, 105, 110, 103]⟩
theorem fmt0 : FmtStop.printed? ⟨#[37, 115, 58, 32, 37, 115, 32, 105, 115, 32, 109, 105, 115, 115, 105, 110, 103]⟩ 2 = some [(0, 115, false), (1, 115, false)] := by kernel_rfl
theorem fmt0r (w : World) : (FmtDoors.printed ⟨#[37, 115, 58, 32, 37, 115, 32, 105, 115, 32, 109, 105, 115, 115, 105, 110, 103]⟩ 2).run Ybaf.prog w = .ok [(0, 115, false), (1, 115, false)] w := by kernel_rfl
def shape9 : List UInt8 := [12, 6, 0, 0, 0, 0, 0, 0, 0, 115, 116, 114, 105, 110, 103]
theorem act9 (name : String) (x : Value) (w : World) : (FmtCalls.act name true 115 false (.iface 9 x)).run Ybaf.prog w = .ok (.closed true) w := by kernel_rfl
theorem op9 (name : String) (x : ByteArray) (w : World) : (FmtStop.operand name true 115 false (.iface 9 (.string x))).run Ybaf.prog w = .ok (shape9, FmtStop.pack x.data.toList) w := by kernel_rfl
theorem act9' (name : String) (x : Value) (w : World) : (FmtCalls.act name false 115 false (.iface 9 x)).run Ybaf.prog w = .ok (.closed false) w := by kernel_rfl
theorem op9' (name : String) (x : ByteArray) (w : World) : (FmtStop.operand name false 115 false (.iface 9 (.string x))).run Ybaf.prog w = .ok (shape9, FmtStop.pack x.data.toList) w := by kernel_rfl
theorem ptr41 (w : World) : (FmtStop.ptrTo "errors.errorString").run Ybaf.prog w = .ok 41 w := by kernel_rfl
theorem elem41 (w : World) : (elemOf 41).run Ybaf.prog w = .ok 43 w := by kernel_rfl
attribute [local go_sem] call7 guard fmt0 fmt0r act9 op9 act9' op9' ptr41 elem41

set_option maxHeartbeats 800000 in
theorem errorf_any (F : Interp) (b c : Nat) (s1 s2 : ByteArray) (w : World) (hF : F.answers w.tape) (c0 : w.cell? ⟨b, 0, none⟩ = some (.iface 9 (.string s1))) (c1 : w.cell? ⟨b, 1, none⟩ = some (.iface 9 (.string s2))) :
    Calls Ybaf.prog 6 #[.string ⟨#[37, 115, 58, 32, 37, 115, 32, 105, 115, 32, 109, 105, 115, 115, 105, 110, 103]⟩, .slice (some ⟨b, 0, none⟩) 2 c] w fun e w' => (∃ t x, e = .returned (.iface t x)) ∧ Below w.heap.size w w' := by
  have hF' := answers_open hF
  go_enter Ybaf.func6, Ybaf.ntmps6
  go_wp2
  apply rows_value nextTurns
  case hr =>
    go_simp
    exact ⟨rfl, rfl⟩
  case h =>
    go_wp2
    go_ret
    exact ⟨⟨_, _, rfl⟩, ((Below.refl _ _).alloc (Nat.le_refl _) _).drew⟩

theorem cat0 : (⟨#[37, 115, 58, 32]⟩ : ByteArray) ++ ⟨#[37, 115, 32, 105, 115, 32, 109, 105, 115, 115, 105, 110, 103]⟩ = ⟨#[37, 115, 58, 32, 37, 115, 32, 105, 115, 32, 109, 105, 115, 115, 105, 110, 103]⟩ := by decide

set_option maxHeartbeats 800000 in
theorem oerrorf_any (F : Interp) (nm : ByteArray) (r : Value) (b : Nat) (s2 : ByteArray) (w : World) (hF : F.answers w.tape) (c0 : w.cell? ⟨b, 0, none⟩ = some (.iface 9 (.string s2))) :
    Calls Ybaf.prog 5 #[.agg #[.string nm, r], .string ⟨#[37, 115, 32, 105, 115, 32, 109, 105, 115, 115, 105, 110, 103]⟩, .slice (some ⟨b, 0, none⟩) 1 1] w fun e w' => (∃ t x, e = .returned (.iface t x)) ∧ Below w.heap.size w w' := by
  have hcat := cat0
  have hbl := block_lt_of_cell c0
  go_enter Ybaf.func5, Ybaf.ntmps5
  go_wp2_with fail
  generalize hC : w.tape w.drawn (Question.appendCap 2 1 20) % 9223372036854775806 = C
  obtain ⟨w1, hw1⟩ : ∃ w1, w1 = (((w.alloc (.cells #[.string nm, r] 30)).alloc (.cells #[.iface 9 (.string nm)] 20)).alloc (.cells (#[.iface 9 (.string nm), .iface 9 (.string s2)] ++ Builtin.zeroCells #[.nilIface] C) 20)).drew := ⟨_, rfl⟩
  rw [← hw1]
  have hb : w1.heap[w.heap.size + 1 + 1]? = some (.cells (#[.iface 9 (.string nm), .iface 9 (.string s2)] ++ Builtin.zeroCells #[.nilIface] C) 20) := by
    have := Deep.blk_alloc_new ((w.alloc (.cells #[.string nm, r] 30)).alloc (.cells #[.iface 9 (.string nm)] 20)) (.cells (#[.iface 9 (.string nm), .iface 9 (.string s2)] ++ Builtin.zeroCells #[.nilIface] C) 20)
    rw [World.size_alloc, World.size_alloc] at this
    rw [hw1]; exact this
  have d0 : w1.cell? ⟨w.heap.size + 1 + 1, 0, none⟩ = some (.iface 9 (.string nm)) := by
    simp only [World.cell?, hb]
    exact (Array.getElem?_append_left (by simp)).trans rfl
  have d1 : w1.cell? ⟨w.heap.size + 1 + 1, 1, none⟩ = some (.iface 9 (.string s2)) := by
    simp only [World.cell?, hb]
    exact (Array.getElem?_append_left (by simp)).trans rfl
  have hB : Below w.heap.size w w1 := by
    rw [hw1]
    exact ((((Below.refl _ _).alloc (Nat.le_refl _) _).alloc (by simp) _).alloc (by simp; omega) _).drew
  have hF1 : F.answers w1.tape := by rw [hw1]; exact hF
  clear hw1 hb
  refine (errorf_any F _ _ nm s2 w1 hF1 d0 d1).mono ?_
  rintro e w2 ⟨⟨t, x, rfl⟩, hb2⟩
  go_wp2
  go_ret
  exact ⟨⟨_, _, rfl⟩, hB.trans (hb2.mono hB.size)⟩

set_option maxHeartbeats 800000 in
/-- field, the key there. -/
theorem field_hit (nm : ByteArray) (b n sz : Nat) (f : ByteArray → Option Value) (s : ByteArray) (v : Value) (w : World) (hM : MF w b n f sz) (hs : s.size ≤ maxLen) (hf : f s = some v) :
    Calls Ybaf.prog 4 #[.agg #[.string nm, .map (some b)], .string s] w fun e w' => e = .returned (.tuple #[v, .nilIface]) ∧ Below w.heap.size w w' := by
  have hl := (hM.block (w' := w.alloc (.cells #[.string nm, .map (some b)] 30)) (RowKit.Below.heap_alloc _ _ _ hM.lt)).look s hs
  rw [hf] at hl
  go_enter Ybaf.func4, Ybaf.ntmps4
  go_wp2_with fail
  go_ret2
  exact ⟨rfl, (Below.refl _ _).alloc (Nat.le_refl _) _⟩

set_option maxHeartbeats 800000 in
/-- field, the key not there. -/
theorem field_miss (F : Interp) (nm : ByteArray) (b n sz : Nat) (f : ByteArray → Option Value) (s : ByteArray) (w : World) (hF : F.answers w.tape) (hM : MF w b n f sz) (hs : s.size ≤ maxLen) (hf : f s = none) :
    Calls Ybaf.prog 4 #[.agg #[.string nm, .map (some b)], .string s] w fun e w' => (∃ t x, e = .returned (.tuple #[.slice none 0 0, .iface t x])) ∧ Below w.heap.size w w' := by
  have hl := (hM.block (w' := w.alloc (.cells #[.string nm, .map (some b)] 30)) (RowKit.Below.heap_alloc _ _ _ hM.lt)).look s hs
  rw [hf] at hl
  go_enter Ybaf.func4, Ybaf.ntmps4
  go_wp2_with fail
  refine (oerrorf_any F nm (.map (some b)) _ s _ (by exact hF) (by simp)).mono ?_
  rintro e w2 ⟨⟨t, x, rfl⟩, hb2⟩
  go_wp2
  go_ret2
  refine ⟨⟨_, _, rfl⟩, ?_⟩
  have hB : Below w.heap.size w ((w.alloc (.cells #[.string nm, .map (some b)] 30)).alloc (.cells #[.iface 9 (.string s)] 20)) := ((Below.refl _ _).alloc (Nat.le_refl _) _).alloc (by simp) _
  exact hB.trans (hb2.mono hB.size)
end Go.Proofs.YbulkdkzmFmt
