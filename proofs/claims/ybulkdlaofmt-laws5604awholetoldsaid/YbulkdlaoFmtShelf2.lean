/-
  DERIVED: THE SHELF's CONTRACTS AT THIS DUMP, IN PLAIN WORDS (tools/lay-plain.mjs out of 'YbulkdlaoFmtShelf2.lean', which tools/lay-shelf.mjs wrote): THE SAME DECLARATIONS UNDER THE SAME NAMES: 'import', 'namespace', 'open', 'def', 'theorem' AND NOTHING ELSE: no command of the shelf's: FOR A HAND-IN. Each laying: the table of numbers ('.._ren') and one theorem, a field a fact of the dump's own or the kernel's comparison; each contract: ONE APPLICATION.
-/
import Derived.Test.YbulkdlaoFmtProg
import Derived.Shelf.SlSortCmp.SmallK
import Derived.Shelf.SlicesE.Clone
import Derived.Shelf.SlicesQ.Equal
import Derived.Shelf.SlicesQ.IndexFunc
import Derived.Shelf.SlGeneric
import Derived.Ground.SlsfProg
import Derived.Ground.SlgnProg
import Derived.Ground.SlgqProg
import Derived.Ground.SlgfProg
namespace Go.Proofs
open Go.Shelf
def Ybaf.lsort_ren : Go.Shelf.Ren := ⟨fun | 6 => 27 | 15 => 45 | 14 => 44 | 28 => 69 | 29 => 70 | 20 => 61 | 21 => 62 | 22 => 63 | 23 => 64 | 24 => 65 | 25 => 66 | 26 => 67 | 27 => 68 | 46 => 78 | 47 => 79 | 48 => 80 | 49 => 81 | 50 => 82 | 57 => 85 | n => n, fun | 22 => 24 | 24 => 34 | 25 => 86 | 3 => 3 | 39 => 56 | 0 => 0 | 53 => 113 | 55 => 27 | 4 => 4 | 46 => 133 | 45 => 132 | 50 => 137 | 5 => 5 | 9 => 9 | 66 => 144 | 70 => 148 | 76 => 156 | 77 => 121 | n => n, fun | n => n⟩
theorem Ybaf.lsort : Go.Proofs.SlLaysF0.n6 Ybaf.prog Ybaf.lsort_ren := {
  mixed := by kernel_rfl
  f6 := ⟨Ybaf.f27.name, by decide, Ybaf.func27.trans (congrArg some (by kernel_rfl))⟩
  f14 := ⟨Ybaf.f44.name, by decide, Ybaf.func44.trans (congrArg some (by kernel_rfl))⟩
  f15 := Ybaf.func45.trans (congrArg some (by kernel_rfl))
  f20 := ⟨Ybaf.f61.name, by decide, Ybaf.func61.trans (congrArg some (by kernel_rfl))⟩
  f21 := ⟨Ybaf.f62.name, by decide, Ybaf.func62.trans (congrArg some (by kernel_rfl))⟩
  f22 := ⟨Ybaf.f63.name, by decide, Ybaf.func63.trans (congrArg some (by kernel_rfl))⟩
  f23 := ⟨Ybaf.f64.name, by decide, Ybaf.func64.trans (congrArg some (by kernel_rfl))⟩
  f24 := ⟨Ybaf.f65.name, by decide, Ybaf.func65.trans (congrArg some (by kernel_rfl))⟩
  f25 := ⟨Ybaf.f66.name, by decide, Ybaf.func66.trans (congrArg some (by kernel_rfl))⟩
  f26 := ⟨Ybaf.f67.name, by decide, Ybaf.func67.trans (congrArg some (by kernel_rfl))⟩
  f27 := ⟨Ybaf.f68.name, by decide, Ybaf.func68.trans (congrArg some (by kernel_rfl))⟩
  f28 := Ybaf.func69.trans (congrArg some (by kernel_rfl))
  f29 := Ybaf.func70.trans (congrArg some (by kernel_rfl))
  f46 := ⟨Ybaf.f78.name, by decide, Ybaf.func78.trans (congrArg some (by kernel_rfl))⟩
  f47 := Ybaf.func79.trans (congrArg some (by kernel_rfl))
  f48 := Ybaf.func80.trans (congrArg some (by kernel_rfl))
  f49 := ⟨Ybaf.f81.name, by decide, Ybaf.func81.trans (congrArg some (by kernel_rfl))⟩
  f50 := ⟨Ybaf.f82.name, by decide, Ybaf.func82.trans (congrArg some (by kernel_rfl))⟩
  f57 := ⟨Ybaf.f85.name, by decide, Ybaf.func85.trans (congrArg some (by kernel_rfl))⟩
  t0 := Ybaf.underlying0
  a0 := Ybaf.isAgg0
  z0 := Ybaf.sizeOf0
  v0 := Ybaf.zeroValue0
  t3 := Ybaf.underlying3
  a3 := Ybaf.isAgg3
  z3 := Ybaf.sizeOf3
  v3 := Ybaf.zeroValue3
  t4 := Ybaf.underlying4
  a4 := Ybaf.isAgg4
  z4 := Ybaf.sizeOf4
  v4 := Ybaf.zeroValue4
  t5 := Ybaf.underlying5
  a5 := Ybaf.isAgg5
  z5 := Ybaf.sizeOf5
  v5 := Ybaf.zeroValue5
  t9 := Ybaf.underlying9
  a9 := Ybaf.isAgg9
  z9 := Ybaf.sizeOf9
  v9 := Ybaf.zeroValue9
  t22 := Ybaf.underlying24
  a22 := Ybaf.isAgg24
  z22 := Ybaf.sizeOf24
  v22 := Ybaf.zeroValue24
  t25 := Ybaf.underlying86
  a25 := Ybaf.isAgg86
  z25 := Ybaf.sizeOf86
  v25 := Ybaf.zeroValue86
  t39 := Ybaf.underlying56
  a39 := Ybaf.isAgg56
  z39 := Ybaf.sizeOf56
  v39 := Ybaf.zeroValue56
  t45 := Ybaf.underlying132
  a45 := Ybaf.isAgg132
  z45 := Ybaf.sizeOf132
  v45 := Ybaf.zeroValue132
  t46 := Ybaf.underlying133
  a46 := Ybaf.isAgg133
  z46 := Ybaf.sizeOf133
  v46 := Ybaf.zeroValue133
  t50 := Ybaf.underlying137
  a50 := Ybaf.isAgg137
  z50 := Ybaf.sizeOf137
  v50 := Ybaf.zeroValue137
  t53 := Ybaf.underlying113
  a53 := Ybaf.isAgg113
  z53 := Ybaf.sizeOf113
  v53 := Ybaf.zeroValue113
  t55 := Ybaf.underlying27
  a55 := Ybaf.isAgg27
  z55 := Ybaf.sizeOf27
  v55 := Ybaf.zeroValue27
  t66 := Ybaf.underlying144
  a66 := Ybaf.isAgg144
  z66 := Ybaf.sizeOf144
  v66 := Ybaf.zeroValue144
  t70 := Ybaf.underlying148
  a70 := Ybaf.isAgg148
  z70 := Ybaf.sizeOf148
  v70 := Ybaf.zeroValue148
  t76 := Ybaf.underlying156
  a76 := Ybaf.isAgg156
  z76 := Ybaf.sizeOf156
  v76 := Ybaf.zeroValue156
  t77 := Ybaf.underlying121
  a77 := Ybaf.isAgg121
  z77 := Ybaf.sizeOf121
  v77 := Ybaf.zeroValue121 }
def Ybaf.lclone_ren : Go.Shelf.Ren := ⟨fun | 41 => 6 | n => n, fun | 22 => 24 | 23 => 34 | 4 => 4 | n => n, fun | n => n⟩
theorem Ybaf.lclone : Go.Proofs.SlLaysE0.n41 Ybaf.prog Ybaf.lclone_ren := {
  mixed := by kernel_rfl
  f41 := ⟨Ybaf.f6.name, by decide, Ybaf.func6.trans (congrArg some (by kernel_rfl))⟩
  t4 := Ybaf.underlying4
  a4 := Ybaf.isAgg4
  z4 := Ybaf.sizeOf4
  v4 := Ybaf.zeroValue4
  t22 := Ybaf.underlying24
  a22 := Ybaf.isAgg24
  z22 := Ybaf.sizeOf24
  v22 := Ybaf.zeroValue24 }
def Ybaf.lequal_ren : Go.Shelf.Ren := ⟨fun | 8 => 8 | n => n, fun | 22 => 24 | 24 => 34 | 4 => 4 | 3 => 3 | 0 => 0 | n => n, fun | n => n⟩
theorem Ybaf.lequal : Go.Proofs.SlLaysQ.n8 Ybaf.prog Ybaf.lequal_ren := {
  mixed := by kernel_rfl
  f8 := ⟨Ybaf.f8.name, by decide, Ybaf.func8.trans (congrArg some (by kernel_rfl))⟩
  t0 := Ybaf.underlying0
  a0 := Ybaf.isAgg0
  z0 := Ybaf.sizeOf0
  v0 := Ybaf.zeroValue0
  t3 := Ybaf.underlying3
  a3 := Ybaf.isAgg3
  z3 := Ybaf.sizeOf3
  v3 := Ybaf.zeroValue3
  t4 := Ybaf.underlying4
  a4 := Ybaf.isAgg4
  z4 := Ybaf.sizeOf4
  v4 := Ybaf.zeroValue4
  t22 := Ybaf.underlying24
  a22 := Ybaf.isAgg24
  z22 := Ybaf.sizeOf24
  v22 := Ybaf.zeroValue24 }
def Ybaf.lindex_ren : Go.Shelf.Ren := ⟨fun | 6 => 48 | n => n, fun | 22 => 24 | 23 => 34 | 25 => 88 | 3 => 3 | 0 => 0 | 4 => 4 | n => n, fun | n => n⟩
theorem Ybaf.lindex : Go.Proofs.SlLaysH0.n6 Ybaf.prog Ybaf.lindex_ren := {
  mixed := by kernel_rfl
  f6 := ⟨Ybaf.f48.name, by decide, Ybaf.func48.trans (congrArg some (by kernel_rfl))⟩
  t0 := Ybaf.underlying0
  a0 := Ybaf.isAgg0
  z0 := Ybaf.sizeOf0
  v0 := Ybaf.zeroValue0
  t3 := Ybaf.underlying3
  a3 := Ybaf.isAgg3
  z3 := Ybaf.sizeOf3
  v3 := Ybaf.zeroValue3
  t4 := Ybaf.underlying4
  a4 := Ybaf.isAgg4
  z4 := Ybaf.sizeOf4
  v4 := Ybaf.zeroValue4
  t22 := Ybaf.underlying24
  a22 := Ybaf.isAgg24
  z22 := Ybaf.sizeOf24
  v22 := Ybaf.zeroValue24
  t25 := Ybaf.underlying88
  a25 := Ybaf.isAgg88
  z25 := Ybaf.sizeOf88
  v25 := Ybaf.zeroValue88 }
end Go.Proofs
