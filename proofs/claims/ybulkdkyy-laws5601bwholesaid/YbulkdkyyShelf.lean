/-
  DERIVED: THE SHELF's CONTRACTS AT THIS DUMP, IN PLAIN WORDS (tools/lay-plain.mjs out of 'YbulkdkyyShelf.lean', which tools/lay-shelf.mjs wrote): THE SAME DECLARATIONS UNDER THE SAME NAMES: 'import', 'namespace', 'open', 'def', 'theorem' AND NOTHING ELSE: no command of the shelf's: FOR A HAND-IN. Each laying: the table of numbers ('.._ren') and one theorem, a field a fact of the dump's own or the kernel's comparison; each contract: ONE APPLICATION.
-/
import Derived.Test.YbulkdkyyProg
import Derived.Shelf.SortM.Plain
import Derived.Shelf.SlGeneric
import Derived.Ground.SlgmProg
namespace Go.Proofs
set_option linter.unusedVariables false
set_option linter.unusedSimpArgs false
open Go.Shelf
def Yba.lsort_ren : Go.Shelf.Ren := ⟨fun | 5 => 8 | 8 => 18 | 7 => 17 | 19 => 39 | 20 => 40 | 10 => 30 | 11 => 31 | 12 => 32 | 13 => 33 | 14 => 34 | 15 => 35 | 16 => 36 | 17 => 37 | 18 => 38 | 30 => 49 | 31 => 50 | 32 => 51 | 33 => 52 | 34 => 53 | 35 => 54 | 40 => 62 | n => n, fun | 23 => 22 | 25 => 2 | 3 => 3 | 32 => 71 | 22 => 22 | 0 => 0 | 44 => 32 | 46 => 46 | 4 => 4 | 36 => 84 | 35 => 83 | 41 => 89 | 5 => 5 | 9 => 9 | 53 => 104 | 57 => 108 | 63 => 115 | 64 => 116 | n => n, fun | n => n⟩
theorem Yba.lsort : Go.Proofs.SlLaysM.n5 Yba.prog Yba.lsort_ren := {
  mixed := by kernel_rfl
  f5 := ⟨Yba.f8.name, by decide, Yba.func8.trans (congrArg some (by kernel_rfl))⟩
  f7 := ⟨Yba.f17.name, by decide, Yba.func17.trans (congrArg some (by kernel_rfl))⟩
  f8 := Yba.func18.trans (congrArg some (by kernel_rfl))
  f10 := ⟨Yba.f30.name, by decide, Yba.func30.trans (congrArg some (by kernel_rfl))⟩
  f11 := ⟨Yba.f31.name, by decide, Yba.func31.trans (congrArg some (by kernel_rfl))⟩
  f12 := ⟨Yba.f32.name, by decide, Yba.func32.trans (congrArg some (by kernel_rfl))⟩
  f13 := ⟨Yba.f33.name, by decide, Yba.func33.trans (congrArg some (by kernel_rfl))⟩
  f14 := ⟨Yba.f34.name, by decide, Yba.func34.trans (congrArg some (by kernel_rfl))⟩
  f15 := ⟨Yba.f35.name, by decide, Yba.func35.trans (congrArg some (by kernel_rfl))⟩
  f16 := ⟨Yba.f36.name, by decide, Yba.func36.trans (congrArg some (by kernel_rfl))⟩
  f17 := ⟨Yba.f37.name, by decide, Yba.func37.trans (congrArg some (by kernel_rfl))⟩
  f18 := ⟨Yba.f38.name, by decide, Yba.func38.trans (congrArg some (by kernel_rfl))⟩
  f19 := Yba.func39.trans (congrArg some (by kernel_rfl))
  f20 := Yba.func40.trans (congrArg some (by kernel_rfl))
  f30 := ⟨Yba.f49.name, by decide, Yba.func49.trans (congrArg some (by kernel_rfl))⟩
  f31 := Yba.func50.trans (congrArg some (by kernel_rfl))
  f32 := Yba.func51.trans (congrArg some (by kernel_rfl))
  f33 := ⟨Yba.f52.name, by decide, Yba.func52.trans (congrArg some (by kernel_rfl))⟩
  f34 := ⟨Yba.f53.name, by decide, Yba.func53.trans (congrArg some (by kernel_rfl))⟩
  f35 := ⟨Yba.f54.name, by decide, Yba.func54.trans (congrArg some (by kernel_rfl))⟩
  f40 := ⟨Yba.f62.name, by decide, Yba.func62.trans (congrArg some (by kernel_rfl))⟩
  t0 := Yba.underlying0
  a0 := Yba.isAgg0
  z0 := Yba.sizeOf0
  v0 := Yba.zeroValue0
  t3 := Yba.underlying3
  a3 := Yba.isAgg3
  z3 := Yba.sizeOf3
  v3 := Yba.zeroValue3
  t4 := Yba.underlying4
  a4 := Yba.isAgg4
  z4 := Yba.sizeOf4
  v4 := Yba.zeroValue4
  t5 := Yba.underlying5
  a5 := Yba.isAgg5
  z5 := Yba.sizeOf5
  v5 := Yba.zeroValue5
  t9 := Yba.underlying9
  a9 := Yba.isAgg9
  z9 := Yba.sizeOf9
  v9 := Yba.zeroValue9
  t22 := Yba.underlying22
  a22 := Yba.isAgg22
  z22 := Yba.sizeOf22
  v22 := Yba.zeroValue22
  t23 := Yba.underlying22
  a23 := Yba.isAgg22
  z23 := Yba.sizeOf22
  v23 := Yba.zeroValue22
  t25 := Yba.underlying2
  a25 := Yba.isAgg2
  z25 := Yba.sizeOf2
  v25 := Yba.zeroValue2
  t32 := Yba.underlying71
  a32 := Yba.isAgg71
  z32 := Yba.sizeOf71
  v32 := Yba.zeroValue71
  t35 := Yba.underlying83
  a35 := Yba.isAgg83
  z35 := Yba.sizeOf83
  v35 := Yba.zeroValue83
  t36 := Yba.underlying84
  a36 := Yba.isAgg84
  z36 := Yba.sizeOf84
  v36 := Yba.zeroValue84
  t41 := Yba.underlying89
  a41 := Yba.isAgg89
  z41 := Yba.sizeOf89
  v41 := Yba.zeroValue89
  t44 := Yba.underlying32
  a44 := Yba.isAgg32
  z44 := Yba.sizeOf32
  v44 := Yba.zeroValue32
  t46 := Yba.underlying46
  a46 := Yba.isAgg46
  z46 := Yba.sizeOf46
  v46 := Yba.zeroValue46
  t53 := Yba.underlying104
  a53 := Yba.isAgg104
  z53 := Yba.sizeOf104
  v53 := Yba.zeroValue104
  t57 := Yba.underlying108
  a57 := Yba.isAgg108
  z57 := Yba.sizeOf108
  v57 := Yba.zeroValue108
  t63 := Yba.underlying115
  a63 := Yba.isAgg115
  z63 := Yba.sizeOf115
  v63 := Yba.zeroValue115
  t64 := Yba.underlying116
  a64 := Yba.isAgg116
  z64 := Yba.sizeOf116
  v64 := Yba.zeroValue116 }
end Go.Proofs
