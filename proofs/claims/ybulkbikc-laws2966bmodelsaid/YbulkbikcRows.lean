/-
  No cell of these rows narrows 'for every input' (looked for: loops, veiled, ifaces, maps, wideKeys, modest, calm, conditions, laid).
  DERIVED. THE GIVEN ROWS OF THIS SEAT. 5 by the template 'for every input the law returns true; each argument reads behind the call as it read before'; 0 by the template 'total and deterministic' (their statements: YbulkbikcTotals.lean).
  GIVEN WITH THE SEED: the statements are not yours to turn. If you find one false, say at which input.
  Laid BY PROGRAM, IN A SANDBOX (cutbox-rows.mjs): the forced cells as the released guide's own fill.sh prints them over the translation fdb3a34d46544edb… (all of the seat's roots in one cut). By AI agents, Wed Nov 11 2026. No macro, syntax, notation, axiom, sorry.
-/
import Derived.Test.YbulkbikcChecked
import GoSem.Claim
import GoSem.ClaimJoined
import GoSem.ClaimMapViews
import Derived.JoinedTies
import Derived.KernelRfl
namespace Go.Proofs.Ybulkbikc
/- THE CELL 'sum', in the pinned program and in every row, IS THE sha256 OF THE DUMP (.gsa) THAT YbulkbikcProg.lean LOADS. Nothing in Lean hashes anything: it is a label: what it is worth is what the hold of that sum in a sandbox is worth. -/
noncomputable def Yba.pinned : Pinned := { name := "ybulkbikc", sum := "fdb3a34d46544edb29343b8af655ddc49c79d8ee9cb84e5bb82d9f6d0c0f33eb", checked := Yba.checked }
namespace Rows
def none {H : Type} : Left H := { results := [], args := [] }

/-- 'frugal-scheduler.LawS2966AFifo': WHATEVER THE INPUT: true; the input reads as it did. -/
def lawS2966AFifoSpec : ChangeSpec := { name := "lawS2966AFifo", fn := fun _ => fun
  | [d] => { results := [.lit (.bool true)], args := [d] }
  | _ => none }
def lawS2966AFifoRow : OpenClaim := { program := "ybulkbikc", sum := "fdb3a34d46544edb29343b8af655ddc49c79d8ee9cb84e5bb82d9f6d0c0f33eb", func := "example.com/frugal-scheduler/frugal-scheduler.LawS2966AFifo", spec := "lawS2966AFifo", inPlace := ["sync/atomic.AddInt64", "sync/atomic.LoadInt64"], apart := false }
def LawS2966AFifoSaid : Prop := lawS2966AFifoRow.holds Yba.pinned (OpenSpec.ofChange lawS2966AFifoSpec)

/-- ITS FALSE NEIGHBOUR: 'it returns false'. Refute it at one input. -/
def lawS2966AFifoWrong : ChangeSpec := { name := "lawS2966AFifo", fn := fun _ => fun
  | [d] => { results := [.lit (.bool false)], args := [d] }
  | _ => none }
def LawS2966AFifoWrongFalsely : Prop := lawS2966AFifoRow.holds Yba.pinned (OpenSpec.ofChange lawS2966AFifoWrong)

/-- 'frugal-scheduler.LawS2966BModel': WHATEVER THE INPUT: true; the input reads as it did. -/
def lawS2966BModelSpec : ChangeSpec := { name := "lawS2966BModel", fn := fun _ => fun
  | [d1, d2] => { results := [.lit (.bool true)], args := [d1, d2] }
  | _ => none }
def lawS2966BModelRow : OpenClaim := { program := "ybulkbikc", sum := "fdb3a34d46544edb29343b8af655ddc49c79d8ee9cb84e5bb82d9f6d0c0f33eb", func := "example.com/frugal-scheduler/frugal-scheduler.LawS2966BModel", spec := "lawS2966BModel", inPlace := ["sync/atomic.StoreUint32", "(*internal/sync.Mutex).Lock", "internal/race.Disable", "sync/atomic.CompareAndSwapInt32", "internal/race.Enable", "internal/race.Acquire", "(*internal/sync.Mutex).lockSlow", "internal/sync.runtime_canSpin", "internal/sync.runtime_doSpin", "internal/sync.throw", "internal/sync.runtime_nanotime", "internal/sync.runtime_SemacquireMutex", "sync/atomic.AddInt32", "(*internal/sync.Mutex).Unlock", "internal/race.ReleaseMerge", "(*internal/sync.Mutex).unlockSlow", "internal/sync.fatal", "internal/sync.runtime_Semrelease", "sync/atomic.LoadUint32"], apart := false }
def LawS2966BModelSaid : Prop := lawS2966BModelRow.holds Yba.pinned (OpenSpec.ofChange lawS2966BModelSpec)

/-- ITS FALSE NEIGHBOUR: 'it returns false'. Refute it at one input. -/
def lawS2966BModelWrong : ChangeSpec := { name := "lawS2966BModel", fn := fun _ => fun
  | [d1, d2] => { results := [.lit (.bool false)], args := [d1, d2] }
  | _ => none }
def LawS2966BModelWrongFalsely : Prop := lawS2966BModelRow.holds Yba.pinned (OpenSpec.ofChange lawS2966BModelWrong)

/-- 'frugal-scheduler.LawS2966BFill': WHATEVER THE INPUT: true; the input reads as it did. -/
def lawS2966BFillSpec : ChangeSpec := { name := "lawS2966BFill", fn := fun _ => fun
  | [d1, d2] => { results := [.lit (.bool true)], args := [d1, d2] }
  | _ => none }
def lawS2966BFillRow : OpenClaim := { program := "ybulkbikc", sum := "fdb3a34d46544edb29343b8af655ddc49c79d8ee9cb84e5bb82d9f6d0c0f33eb", func := "example.com/frugal-scheduler/frugal-scheduler.LawS2966BFill", spec := "lawS2966BFill", inPlace := ["sync/atomic.StoreUint32", "(*internal/sync.Mutex).Lock", "internal/race.Disable", "sync/atomic.CompareAndSwapInt32", "internal/race.Enable", "internal/race.Acquire", "(*internal/sync.Mutex).lockSlow", "internal/sync.runtime_canSpin", "internal/sync.runtime_doSpin", "internal/sync.throw", "internal/sync.runtime_nanotime", "internal/sync.runtime_SemacquireMutex", "sync/atomic.AddInt32", "(*internal/sync.Mutex).Unlock", "internal/race.ReleaseMerge", "(*internal/sync.Mutex).unlockSlow", "internal/sync.fatal", "internal/sync.runtime_Semrelease", "sync/atomic.LoadUint32"], apart := false }
def LawS2966BFillSaid : Prop := lawS2966BFillRow.holds Yba.pinned (OpenSpec.ofChange lawS2966BFillSpec)

/-- ITS FALSE NEIGHBOUR: 'it returns false'. Refute it at one input. -/
def lawS2966BFillWrong : ChangeSpec := { name := "lawS2966BFill", fn := fun _ => fun
  | [d1, d2] => { results := [.lit (.bool false)], args := [d1, d2] }
  | _ => none }
def LawS2966BFillWrongFalsely : Prop := lawS2966BFillRow.holds Yba.pinned (OpenSpec.ofChange lawS2966BFillWrong)

/-- 'frugal-scheduler.LawS2966CAdmit': WHATEVER THE INPUT: true; the input reads as it did. -/
def lawS2966CAdmitSpec : ChangeSpec := { name := "lawS2966CAdmit", fn := fun _ => fun
  | [d1, d2] => { results := [.lit (.bool true)], args := [d1, d2] }
  | _ => none }
def lawS2966CAdmitRow : OpenClaim := { program := "ybulkbikc", sum := "fdb3a34d46544edb29343b8af655ddc49c79d8ee9cb84e5bb82d9f6d0c0f33eb", func := "example.com/frugal-scheduler/frugal-scheduler.LawS2966CAdmit", spec := "lawS2966CAdmit", inPlace := ["sync/atomic.StoreInt32", "sync/atomic.LoadInt32", "sync/atomic.CompareAndSwapInt32"], apart := false }
def LawS2966CAdmitSaid : Prop := lawS2966CAdmitRow.holds Yba.pinned (OpenSpec.ofChange lawS2966CAdmitSpec)

/-- ITS FALSE NEIGHBOUR: 'it returns false'. Refute it at one input. -/
def lawS2966CAdmitWrong : ChangeSpec := { name := "lawS2966CAdmit", fn := fun _ => fun
  | [d1, d2] => { results := [.lit (.bool false)], args := [d1, d2] }
  | _ => none }
def LawS2966CAdmitWrongFalsely : Prop := lawS2966CAdmitRow.holds Yba.pinned (OpenSpec.ofChange lawS2966CAdmitWrong)

/-- 'frugal-scheduler.LawS2966CFill': WHATEVER THE INPUT: true; the input reads as it did. -/
def lawS2966CFillSpec : ChangeSpec := { name := "lawS2966CFill", fn := fun _ => fun
  | [d] => { results := [.lit (.bool true)], args := [d] }
  | _ => none }
def lawS2966CFillRow : OpenClaim := { program := "ybulkbikc", sum := "fdb3a34d46544edb29343b8af655ddc49c79d8ee9cb84e5bb82d9f6d0c0f33eb", func := "example.com/frugal-scheduler/frugal-scheduler.LawS2966CFill", spec := "lawS2966CFill", inPlace := ["sync/atomic.LoadInt32", "sync/atomic.CompareAndSwapInt32"], apart := false }
def LawS2966CFillSaid : Prop := lawS2966CFillRow.holds Yba.pinned (OpenSpec.ofChange lawS2966CFillSpec)

/-- ITS FALSE NEIGHBOUR: 'it returns false'. Refute it at one input. -/
def lawS2966CFillWrong : ChangeSpec := { name := "lawS2966CFill", fn := fun _ => fun
  | [d] => { results := [.lit (.bool false)], args := [d] }
  | _ => none }
def LawS2966CFillWrongFalsely : Prop := lawS2966CFillRow.holds Yba.pinned (OpenSpec.ofChange lawS2966CFillWrong)

end Rows
end Go.Proofs.Ybulkbikc
