/-
  The numbers under which this program holds sync.Mutex's functions and types, and that it holds them.
-/
import Derived.Test.YbulkbiqoRows
import Derived.Conc.MuLone
import Derived.KernelRfl
namespace Go.Proofs
abbrev Yba.muLink : Go.Conc.Locks.MuLink := { lock := 13, unlock := 14, ilock := 17, iunlock := 18, lockSlow := 26, unlockSlow := 29, disable := 22, enable := 24, acquire := 25, relMerge := 27, cas32 := 23, add32 := 28, tMutex := 83, tIMutex := 81, tPMutex := 122, tPIMutex := 126, tPI32 := 128, tUP := 63, tNoCopy := 79, tU32 := 70 }
theorem Yba.muLib : Go.Conc.Locks.MuLib Yba.prog Yba.muLink :=
  ⟨Yba.func13, Yba.func14, Yba.func17, Yba.func18, Yba.func22, Yba.func24, Yba.func25, Yba.func27, Yba.func23, Yba.func28, Yba.underlying81, Yba.runUnderlying81, Yba.sizeOf81, Yba.isAgg81, Yba.zeroValue81, Yba.underlying83, Yba.runUnderlying83, Yba.sizeOf83, Yba.isAgg83, Yba.zeroValue83, Yba.underlying122, Yba.runUnderlying122, Yba.sizeOf122, Yba.isAgg122, Yba.zeroValue122, Yba.underlying126, Yba.runUnderlying126, Yba.sizeOf126, Yba.isAgg126, Yba.zeroValue126, Yba.underlying128, Yba.runUnderlying128, Yba.sizeOf128, Yba.isAgg128, Yba.zeroValue128, Yba.underlying63, Yba.runUnderlying63, Yba.sizeOf63, Yba.isAgg63, Yba.zeroValue63, Yba.underlying79, Yba.runUnderlying79, Yba.sizeOf79, Yba.isAgg79, Yba.zeroValue79, Yba.underlying21, Yba.runUnderlying21, Yba.sizeOf21, Yba.isAgg21, Yba.zeroValue21, (by kernel_rfl)⟩
end Go.Proofs
