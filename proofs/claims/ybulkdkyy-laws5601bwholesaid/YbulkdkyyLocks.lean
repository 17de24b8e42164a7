/- The numbers under which this dump holds the library's locks' functions and types, and that it holds them. -/
import Derived.Test.YbulkdkyyProg
import Derived.Conc.MuLone
import Derived.KernelRfl
namespace Go.Proofs.Ybulkdkyy
set_option linter.unusedVariables false
set_option linter.unusedSimpArgs false
abbrev muLink : Go.Conc.Locks.MuLink := { lock := 12, unlock := 13, ilock := 24, iunlock := 25, lockSlow := 45, unlockSlow := 48, disable := 41, enable := 43, acquire := 44, relMerge := 46, cas32 := 42, add32 := 47, tMutex := 36, tIMutex := 34, tPMutex := 75, tPIMutex := 96, tPI32 := 98, tUP := 100, tNoCopy := 31, tU32 := 32 }
theorem muLib : Go.Conc.Locks.MuLib Yba.prog muLink :=
  ⟨Yba.func12, Yba.func13, Yba.func24, Yba.func25, Yba.func41, Yba.func43, Yba.func44, Yba.func46, Yba.func42, Yba.func47, Yba.underlying34, Yba.runUnderlying34, Yba.sizeOf34, Yba.isAgg34, Yba.zeroValue34, Yba.underlying36, Yba.runUnderlying36, Yba.sizeOf36, Yba.isAgg36, Yba.zeroValue36, Yba.underlying75, Yba.runUnderlying75, Yba.sizeOf75, Yba.isAgg75, Yba.zeroValue75, Yba.underlying96, Yba.runUnderlying96, Yba.sizeOf96, Yba.isAgg96, Yba.zeroValue96, Yba.underlying98, Yba.runUnderlying98, Yba.sizeOf98, Yba.isAgg98, Yba.zeroValue98, Yba.underlying100, Yba.runUnderlying100, Yba.sizeOf100, Yba.isAgg100, Yba.zeroValue100, Yba.underlying31, Yba.runUnderlying31, Yba.sizeOf31, Yba.isAgg31, Yba.zeroValue31, Yba.underlying21, Yba.runUnderlying21, Yba.sizeOf21, Yba.isAgg21, Yba.zeroValue21, (by kernel_rfl)⟩
end Go.Proofs.Ybulkdkyy
