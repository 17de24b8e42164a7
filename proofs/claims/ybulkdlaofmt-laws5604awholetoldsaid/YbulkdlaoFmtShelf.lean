/-
  DERIVED: THE SHELF's CONTRACTS AT THIS DUMP, IN PLAIN WORDS (tools/lay-plain.mjs out of 'YbulkdlaoFmtShelf.lean', which tools/lay-shelf.mjs wrote): THE SAME DECLARATIONS UNDER THE SAME NAMES: 'import', 'namespace', 'open', 'def', 'theorem' AND NOTHING ELSE: no command of the shelf's: FOR A HAND-IN. Each laying: the table of numbers ('.._ren') and one theorem, a field a fact of the dump's own or the kernel's comparison; each contract: ONE APPLICATION.
-/
import Derived.Test.YbulkdlaoFmtProg
import Derived.Shelf.Small.Strs
import Derived.Shelf.Small.Bits
import Derived.Ground.NamesProg
namespace Go.Proofs
open Go.Shelf
def Ybaf.lcmp_ren : Go.Shelf.Ren := ⟨fun | 106 => 29 | 213 => 46 | 265 => 71 | n => n, fun | 9 => 9 | 3 => 3 | n => n, fun | n => n⟩
theorem Ybaf.lcmp : Go.Proofs.Lays.n106 Ybaf.prog Ybaf.lcmp_ren := {
  mixed := by kernel_rfl
  f106 := Ybaf.func29.trans (congrArg some (by kernel_rfl))
  f213 := Ybaf.func46.trans (congrArg some (by kernel_rfl))
  f265 := Ybaf.func71.trans (congrArg some (by kernel_rfl))
  t3 := Ybaf.underlying3
  a3 := Ybaf.isAgg3
  z3 := Ybaf.sizeOf3
  v3 := Ybaf.zeroValue3
  t9 := Ybaf.underlying9
  a9 := Ybaf.isAgg9
  z9 := Ybaf.sizeOf9
  v9 := Ybaf.zeroValue9 }
def Ybaf.lbits_ren : Go.Shelf.Ren := ⟨fun | 125 => 45 | 128 => 69 | 129 => 70 | n => n, fun | 46 => 56 | 3 => 3 | 51 => 113 | 53 => 27 | 4 => 4 | 5 => 5 | 9 => 9 | n => n, fun | n => n⟩
theorem Ybaf.lbits : Go.Proofs.Lays.n125 Ybaf.prog Ybaf.lbits_ren := {
  mixed := by kernel_rfl
  f125 := Ybaf.func45.trans (congrArg some (by kernel_rfl))
  f128 := Ybaf.func69.trans (congrArg some (by kernel_rfl))
  f129 := Ybaf.func70.trans (congrArg some (by kernel_rfl))
  t3 := Ybaf.underlying3
  a3 := Ybaf.isAgg3
  z3 := Ybaf.sizeOf3
  v3 := Ybaf.zeroValue3
  t4 := Ybaf.underlying4
  a4 := Ybaf.isAgg4
  z4 := Ybaf.sizeOf4
  v4 := Ybaf.zeroValue4
  t5 := Ybaf.underlying5
  a5 := Ybaf.isAgg5
  z5 := Ybaf.sizeOf5
  v5 := Ybaf.zeroValue5
  t9 := Ybaf.underlying9
  a9 := Ybaf.isAgg9
  z9 := Ybaf.sizeOf9
  v9 := Ybaf.zeroValue9
  t46 := Ybaf.underlying56
  a46 := Ybaf.isAgg56
  z46 := Ybaf.sizeOf56
  v46 := Ybaf.zeroValue56
  t51 := Ybaf.underlying113
  a51 := Ybaf.isAgg113
  z51 := Ybaf.sizeOf113
  v51 := Ybaf.zeroValue113
  t53 := Ybaf.underlying27
  a53 := Ybaf.isAgg27
  z53 := Ybaf.sizeOf27
  v53 := Ybaf.zeroValue27 }
end Go.Proofs
