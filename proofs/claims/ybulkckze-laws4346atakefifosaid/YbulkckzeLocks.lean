/-
  The numbers under which this program holds sync.Mutex's functions and types, and that it holds them (the library's own 'MuLib').
-/
import Derived.Test.YbulkckzeRows
import Derived.Conc.MuLone
import Derived.KernelRfl
namespace Go.Proofs
abbrev Yba.muLink : Go.Conc.Locks.MuLink := { lock := 11, unlock := 12, ilock := 15, iunlock := 16, lockSlow := 22, unlockSlow := 25, disable := 18, enable := 20, acquire := 21, relMerge := 23, cas32 := 19, add32 := 24, tMutex := 37, tIMutex := 35, tPMutex := 82, tPIMutex := 84, tPI32 := 86, tUP := 88, tNoCopy := 32, tU32 := 33 }
theorem Yba.muLib : Go.Conc.Locks.MuLib Yba.prog Yba.muLink :=
  ⟨Yba.func11, Yba.func12, Yba.func15, Yba.func16, Yba.func18, Yba.func20, Yba.func21, Yba.func23, Yba.func19, Yba.func24, Yba.underlying35, Yba.runUnderlying35, Yba.sizeOf35, Yba.isAgg35, Yba.zeroValue35, Yba.underlying37, Yba.runUnderlying37, Yba.sizeOf37, Yba.isAgg37, Yba.zeroValue37, Yba.underlying82, Yba.runUnderlying82, Yba.sizeOf82, Yba.isAgg82, Yba.zeroValue82, Yba.underlying84, Yba.runUnderlying84, Yba.sizeOf84, Yba.isAgg84, Yba.zeroValue84, Yba.underlying86, Yba.runUnderlying86, Yba.sizeOf86, Yba.isAgg86, Yba.zeroValue86, Yba.underlying88, Yba.runUnderlying88, Yba.sizeOf88, Yba.isAgg88, Yba.zeroValue88, Yba.underlying32, Yba.runUnderlying32, Yba.sizeOf32, Yba.isAgg32, Yba.zeroValue32, Yba.underlying21, Yba.runUnderlying21, Yba.sizeOf21, Yba.isAgg21, Yba.zeroValue21, (by kernel_rfl)⟩
end Go.Proofs
