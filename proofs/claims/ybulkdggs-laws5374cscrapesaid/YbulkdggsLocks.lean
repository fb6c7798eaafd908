/- The numbers under which this dump holds the lock's functions and types, and that it holds them; after the guide's RegLocks. -/
import Derived.Test.YbulkdggsProg
import Derived.Conc.RwLib
import Derived.Conc.MuData
import Derived.KernelRfl
namespace Go.Proofs
abbrev Yba.muLink : Go.Conc.Locks.MuLink := { lock := 11, unlock := 12, ilock := 13, iunlock := 14, lockSlow := 19, unlockSlow := 22, disable := 15, enable := 17, acquire := 18, relMerge := 20, cas32 := 16, add32 := 21, tMutex := 36, tIMutex := 34, tPMutex := 78, tPIMutex := 79, tPI32 := 81, tUP := 83, tNoCopy := 32, tU32 := 24 }
theorem Yba.muLib : Go.Conc.Locks.MuLib Yba.prog Yba.muLink :=
  ⟨Yba.func11, Yba.func12, Yba.func13, Yba.func14, Yba.func15, Yba.func17, Yba.func18, Yba.func20, Yba.func16, Yba.func21, Yba.underlying34, Yba.runUnderlying34, Yba.sizeOf34, Yba.isAgg34, Yba.zeroValue34, Yba.underlying36, Yba.runUnderlying36, Yba.sizeOf36, Yba.isAgg36, Yba.zeroValue36, Yba.underlying78, Yba.runUnderlying78, Yba.sizeOf78, Yba.isAgg78, Yba.zeroValue78, Yba.underlying79, Yba.runUnderlying79, Yba.sizeOf79, Yba.isAgg79, Yba.zeroValue79, Yba.underlying81, Yba.runUnderlying81, Yba.sizeOf81, Yba.isAgg81, Yba.zeroValue81, Yba.underlying83, Yba.runUnderlying83, Yba.sizeOf83, Yba.isAgg83, Yba.zeroValue83, Yba.underlying32, Yba.runUnderlying32, Yba.sizeOf32, Yba.isAgg32, Yba.zeroValue32, Yba.underlying21, Yba.runUnderlying21, Yba.sizeOf21, Yba.isAgg21, Yba.zeroValue21, (by kernel_rfl)⟩
end Go.Proofs
