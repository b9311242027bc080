/-
  The numbers under which this dump holds sync.Mutex's functions and types, and that it holds them (after the guide's worked 'RegLocks'); checked by the kernel as it is compiled.
-/
import Derived.Test.YbulkdtzeProg
import Derived.Conc.RwLib
import Derived.Conc.MuData
import Derived.KernelRfl
namespace Go.Proofs
abbrev Yba.muLink : Go.Conc.Locks.MuLink := { lock := 10, unlock := 9, ilock := 13, iunlock := 12, lockSlow := 21, unlockSlow := 20, disable := 14, enable := 15, acquire := 17, relMerge := 18, cas32 := 16, add32 := 19, tMutex := 50, tIMutex := 48, tPMutex := 85, tPIMutex := 86, tPI32 := 88, tUP := 90, tNoCopy := 45, tU32 := 46 }
theorem Yba.muLib : Go.Conc.Locks.MuLib Yba.prog Yba.muLink :=
  ⟨Yba.func10, Yba.func9, Yba.func13, Yba.func12, Yba.func14, Yba.func15, Yba.func17, Yba.func18, Yba.func16, Yba.func19, Yba.underlying48, Yba.runUnderlying48, Yba.sizeOf48, Yba.isAgg48, Yba.zeroValue48, Yba.underlying50, Yba.runUnderlying50, Yba.sizeOf50, Yba.isAgg50, Yba.zeroValue50, Yba.underlying85, Yba.runUnderlying85, Yba.sizeOf85, Yba.isAgg85, Yba.zeroValue85, Yba.underlying86, Yba.runUnderlying86, Yba.sizeOf86, Yba.isAgg86, Yba.zeroValue86, Yba.underlying88, Yba.runUnderlying88, Yba.sizeOf88, Yba.isAgg88, Yba.zeroValue88, Yba.underlying90, Yba.runUnderlying90, Yba.sizeOf90, Yba.isAgg90, Yba.zeroValue90, Yba.underlying45, Yba.runUnderlying45, Yba.sizeOf45, Yba.isAgg45, Yba.zeroValue45, Yba.underlying21, Yba.runUnderlying21, Yba.sizeOf21, Yba.isAgg21, Yba.zeroValue21, (by kernel_rfl)⟩
end Go.Proofs
