import Derived.Test.YbulkdlaoFmtSort2
import Derived.DeepKeys
import Derived.Laws.StructEq
import Derived.DataShut
namespace Go.Proofs.YbulkdlaoFmt
set_option linter.unusedVariables false
set_option linter.unusedSimpArgs false
open Go.RowKit

theorem cells141 : Ybaf.prog.cellsOf 141 = 8 := by kernel_rfl
theorem cells5 : Ybaf.prog.cellsOf 5 = 1 := by kernel_rfl

theorem wf8 (b : UInt8) : (Lit.int .u8 (b.toNat : Int)).wf = true := by
  have h : b.toNat < 256 := UInt8.toNat_lt b
  rw [Lit.wf_int_iff]
  constructor
  · show (0 : Int) ≤ _; omega
  · show (b.toNat : Int) ≤ 255; omega

def v8 (b0 b1 b2 b3 b4 b5 b6 b7 : UInt8) : Array Value := #[.int .u8 b0.toNat, .int .u8 b1.toNat, .int .u8 b2.toNat, .int .u8 b3.toNat, .int .u8 b4.toNat, .int .u8 b5.toNat, .int .u8 b6.toNat, .int .u8 b7.toNat]

theorem lits8 (b0 b1 b2 b3 b4 b5 b6 b7 : UInt8) : Ybaf.prog.keyLits 2 141 (Value.agg (v8 b0 b1 b2 b3 b4 b5 b6 b7)).cells.toList = some [.int .u8 b0.toNat, .int .u8 b1.toNat, .int .u8 b2.toNat, .int .u8 b3.toNat, .int .u8 b4.toNat, .int .u8 b5.toNat, .int .u8 b6.toNat, .int .u8 b7.toNat] := by
  simp [Program.keyLits, Ybaf.underlying141, Ybaf.underlying5, cells141, cells5, Value.cells, v8, List.range, List.range.loop, wf8]

theorem eq8 (b0 b1 b2 b3 b4 b5 b6 b7 c0 c1 c2 c3 c4 c5 c6 c7 : UInt8) (w : World) :
    (binOp .eql 141 (.agg (v8 b0 b1 b2 b3 b4 b5 b6 b7)) (.agg (v8 c0 c1 c2 c3 c4 c5 c6 c7))).run Ybaf.prog w = .ok (.bool (decide ((⟨#[b0, b1, b2, b3, b4, b5, b6, b7]⟩ : ByteArray) = ⟨#[c0, c1, c2, c3, c4, c5, c6, c7]⟩))) w := by
  have hE : EqAt Ybaf.prog 10000 141 := run_equalIn_deep 9998 2 141 (by kernel_rfl)
  have hf : ∀ a0 a1 a2 a3 a4 a5 a6 a7 : UInt8, (Value.agg (v8 a0 a1 a2 a3 a4 a5 a6 a7)).formed Ybaf.prog 141 = true := fun a0 a1 a2 a3 a4 a5 a6 a7 => by simp [Value.formed, Ybaf.underlying141, cells141, v8]
  obtain ⟨r, h1, h2⟩ := hE w 2 2 _ _ _ _ (hf b0 b1 b2 b3 b4 b5 b6 b7) (hf c0 c1 c2 c3 c4 c5 c6 c7) (lits8 b0 b1 b2 b3 b4 b5 b6 b7) (lits8 c0 c1 c2 c3 c4 c5 c6 c7)
  rw [run_eql_struct, h1]
  have : r = decide ((⟨#[b0, b1, b2, b3, b4, b5, b6, b7]⟩ : ByteArray) = ⟨#[c0, c1, c2, c3, c4, c5, c6, c7]⟩) := by
    cases hr : r with
    | true =>
      have h3 := h2.1 hr
      simp at h3
      obtain ⟨e0, e1, e2, e3, e4, e5, e6, e7⟩ := h3
      have f : ∀ {x y : UInt8}, (x.toNat : Int) = (y.toNat : Int) → x = y := fun h => UInt8.toNat_inj.1 (by omega)
      rw [f e0, f e1, f e2, f e3, f e4, f e5, f e6, f e7]
      simp
    | false =>
      symm
      apply decide_eq_false
      intro e
      have h3 : r = true := h2.2 (by
        simp at e
        obtain ⟨rfl, rfl, rfl, rfl, rfl, rfl, rfl, rfl⟩ := e
        rfl)
      rw [hr] at h3; cases h3
  rw [this]; rfl
end Go.Proofs.YbulkdlaoFmt
