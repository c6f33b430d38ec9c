/-
  The numbers under which this program holds sync.Mutex's functions and types, and that it holds them.
-/
import Derived.Test.YbulkbikcRows
import Derived.Conc.MuLone
import Derived.KernelRfl
namespace Go.Proofs
abbrev Yba.muLink : Go.Conc.Locks.MuLink := { lock := 25, unlock := 26, ilock := 36, iunlock := 37, lockSlow := 43, unlockSlow := 46, disable := 40, enable := 41, acquire := 42, relMerge := 44, cas32 := 39, add32 := 45, tMutex := 59, tIMutex := 57, tPMutex := 136, tPIMutex := 139, tPI32 := 128, tUP := 104, tNoCopy := 55, tU32 := 52 }
theorem Yba.muLib : Go.Conc.Locks.MuLib Yba.prog Yba.muLink :=
  ⟨Yba.func25, Yba.func26, Yba.func36, Yba.func37, Yba.func40, Yba.func41, Yba.func42, Yba.func44, Yba.func39, Yba.func45, Yba.underlying57, Yba.runUnderlying57, Yba.sizeOf57, Yba.isAgg57, Yba.zeroValue57, Yba.underlying59, Yba.runUnderlying59, Yba.sizeOf59, Yba.isAgg59, Yba.zeroValue59, Yba.underlying136, Yba.runUnderlying136, Yba.sizeOf136, Yba.isAgg136, Yba.zeroValue136, Yba.underlying139, Yba.runUnderlying139, Yba.sizeOf139, Yba.isAgg139, Yba.zeroValue139, Yba.underlying128, Yba.runUnderlying128, Yba.sizeOf128, Yba.isAgg128, Yba.zeroValue128, Yba.underlying104, Yba.runUnderlying104, Yba.sizeOf104, Yba.isAgg104, Yba.zeroValue104, Yba.underlying55, Yba.runUnderlying55, Yba.sizeOf55, Yba.isAgg55, Yba.zeroValue55, Yba.underlying21, Yba.runUnderlying21, Yba.sizeOf21, Yba.isAgg21, Yba.zeroValue21, (by kernel_rfl)⟩
end Go.Proofs
