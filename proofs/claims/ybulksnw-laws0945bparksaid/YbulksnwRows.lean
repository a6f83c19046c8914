/-
  No cell of these rows narrows 'for every input' (looked for: loops, veiled, ifaces, maps, wideKeys, modest, calm, conditions, laid).
  DERIVED. THE GIVEN ROWS OF THIS SEAT. 5 by the template 'for every input the law returns true; each argument reads behind the call as it read before'; 0 by the template 'total and deterministic' (their statements: YbulksnwTotals.lean).
  GIVEN WITH THE SEED: the statements are not yours to turn. If you find one false, say at which input.
  Laid BY PROGRAM, IN A SANDBOX (cutbox-rows.mjs): the forced cells as the released guide's own fill.sh prints them over the translation c0edf32e6c3e4e95… (all of the seat's roots in one cut). By AI agents, Wed Nov 11 2026. No macro, syntax, notation, axiom, sorry.
-/
import Derived.Test.YbulksnwChecked
import GoSem.Claim
import GoSem.ClaimJoined
import GoSem.ClaimMapViews
import Derived.JoinedTies
import Derived.KernelRfl
namespace Go.Proofs.Ybulksnw
/- THE CELL 'sum', in the pinned program and in every row, IS THE sha256 OF THE DUMP (.gsa) THAT YbulksnwProg.lean LOADS. Nothing in Lean hashes anything: it is a label: what it is worth is what the hold of that sum in a sandbox is worth. -/
noncomputable def Yba.pinned : Pinned := { name := "ybulksnw", sum := "c0edf32e6c3e4e951f8cf9c39e2c6c88e1fe26dcf49d887e52851eacab56718b", checked := Yba.checked }
namespace Rows
def none {H : Type} : Left H := { results := [], args := [] }

/-- 'ply3.LawS0945AReclaim': WHATEVER THE INPUT: true; the input reads as it did. -/
def lawS0945AReclaimSpec : ChangeSpec := { name := "lawS0945AReclaim", fn := fun _ => fun
  | [d1, d2, d3, d4, d5, d6] => { results := [.lit (.bool true)], args := [d1, d2, d3, d4, d5, d6] }
  | _ => none }
def lawS0945AReclaimRow : OpenClaim := { program := "ybulksnw", sum := "c0edf32e6c3e4e951f8cf9c39e2c6c88e1fe26dcf49d887e52851eacab56718b", func := "example.com/ply3/ply3.LawS0945AReclaim", spec := "lawS0945AReclaim", inPlace := ["sync/atomic.StoreUint64", "sync/atomic.LoadUint64", "sync/atomic.CompareAndSwapUint64", "sync/atomic.AddUint64", "(*sync.Cond).Broadcast", "(*sync.copyChecker).check", "sync.runtime_notifyListNotifyAll"], apart := false }
def LawS0945AReclaimSaid : Prop := lawS0945AReclaimRow.holds Yba.pinned (OpenSpec.ofChange lawS0945AReclaimSpec)

/-- ITS FALSE NEIGHBOUR: 'it returns false'. Refute it at one input. -/
def lawS0945AReclaimWrong : ChangeSpec := { name := "lawS0945AReclaim", fn := fun _ => fun
  | [d1, d2, d3, d4, d5, d6] => { results := [.lit (.bool false)], args := [d1, d2, d3, d4, d5, d6] }
  | _ => none }
def LawS0945AReclaimWrongFalsely : Prop := lawS0945AReclaimRow.holds Yba.pinned (OpenSpec.ofChange lawS0945AReclaimWrong)

/-- 'ply3.LawS0945BPark': WHATEVER THE INPUT: true; the input reads as it did. -/
def lawS0945BParkSpec : ChangeSpec := { name := "lawS0945BPark", fn := fun _ => fun
  | [d1, d2, d3, d4, d5, d6, d7, d8, d9, d10] => { results := [.lit (.bool true)], args := [d1, d2, d3, d4, d5, d6, d7, d8, d9, d10] }
  | _ => none }
def lawS0945BParkRow : OpenClaim := { program := "ybulksnw", sum := "c0edf32e6c3e4e951f8cf9c39e2c6c88e1fe26dcf49d887e52851eacab56718b", func := "example.com/ply3/ply3.LawS0945BPark", spec := "lawS0945BPark", inPlace := ["sync/atomic.StoreInt32", "sync/atomic.StoreUint32", "sync/atomic.StoreInt64", "(*internal/sync.Mutex).Lock", "internal/race.Disable", "sync/atomic.CompareAndSwapInt32", "internal/race.Enable", "internal/race.Acquire", "(*internal/sync.Mutex).lockSlow", "internal/sync.runtime_canSpin", "internal/sync.runtime_doSpin", "internal/sync.throw", "internal/sync.runtime_nanotime", "internal/sync.runtime_SemacquireMutex", "sync/atomic.AddInt32", "sync/atomic.LoadUint64", "sync/atomic.LoadInt64", "(*internal/sync.Mutex).Unlock", "internal/race.ReleaseMerge", "(*internal/sync.Mutex).unlockSlow", "internal/sync.fatal", "internal/sync.runtime_Semrelease", "sync/atomic.LoadUint32", "sync/atomic.LoadInt32"], unfollowed := true, recurses := true, apart := false }
def LawS0945BParkSaid : Prop := lawS0945BParkRow.holds Yba.pinned (OpenSpec.ofChange lawS0945BParkSpec)

/-- ITS FALSE NEIGHBOUR: 'it returns false'. Refute it at one input. -/
def lawS0945BParkWrong : ChangeSpec := { name := "lawS0945BPark", fn := fun _ => fun
  | [d1, d2, d3, d4, d5, d6, d7, d8, d9, d10] => { results := [.lit (.bool false)], args := [d1, d2, d3, d4, d5, d6, d7, d8, d9, d10] }
  | _ => none }
def LawS0945BParkWrongFalsely : Prop := lawS0945BParkRow.holds Yba.pinned (OpenSpec.ofChange lawS0945BParkWrong)

/-- 'ply3.LawS0945CRelease': WHATEVER THE INPUT: true; the input reads as it did. -/
def lawS0945CReleaseSpec : ChangeSpec := { name := "lawS0945CRelease", fn := fun _ => fun
  | [d1, d2, d3, d4, d5] => { results := [.lit (.bool true)], args := [d1, d2, d3, d4, d5] }
  | _ => none }
def lawS0945CReleaseRow : OpenClaim := { program := "ybulksnw", sum := "c0edf32e6c3e4e951f8cf9c39e2c6c88e1fe26dcf49d887e52851eacab56718b", func := "example.com/ply3/ply3.LawS0945CRelease", spec := "lawS0945CRelease", inPlace := ["sync/atomic.StoreUint32", "sync/atomic.LoadUint32"], unfollowed := true, recurses := true, apart := false }
def LawS0945CReleaseSaid : Prop := lawS0945CReleaseRow.holds Yba.pinned (OpenSpec.ofChange lawS0945CReleaseSpec)

/-- ITS FALSE NEIGHBOUR: 'it returns false'. Refute it at one input. -/
def lawS0945CReleaseWrong : ChangeSpec := { name := "lawS0945CRelease", fn := fun _ => fun
  | [d1, d2, d3, d4, d5] => { results := [.lit (.bool false)], args := [d1, d2, d3, d4, d5] }
  | _ => none }
def LawS0945CReleaseWrongFalsely : Prop := lawS0945CReleaseRow.holds Yba.pinned (OpenSpec.ofChange lawS0945CReleaseWrong)

/-- 'ply3.LawS0945CNoLimit': WHATEVER THE INPUT: true; the input reads as it did. -/
def lawS0945CNoLimitSpec : ChangeSpec := { name := "lawS0945CNoLimit", fn := fun _ => fun
  | [d1, d2, d3, d4] => { results := [.lit (.bool true)], args := [d1, d2, d3, d4] }
  | _ => none }
def lawS0945CNoLimitRow : OpenClaim := { program := "ybulksnw", sum := "c0edf32e6c3e4e951f8cf9c39e2c6c88e1fe26dcf49d887e52851eacab56718b", func := "example.com/ply3/ply3.LawS0945CNoLimit", spec := "lawS0945CNoLimit", inPlace := ["sync/atomic.StoreUint32", "sync/atomic.LoadUint32"], unfollowed := true, recurses := true, apart := false }
def LawS0945CNoLimitSaid : Prop := lawS0945CNoLimitRow.holds Yba.pinned (OpenSpec.ofChange lawS0945CNoLimitSpec)

/-- ITS FALSE NEIGHBOUR: 'it returns false'. Refute it at one input. -/
def lawS0945CNoLimitWrong : ChangeSpec := { name := "lawS0945CNoLimit", fn := fun _ => fun
  | [d1, d2, d3, d4] => { results := [.lit (.bool false)], args := [d1, d2, d3, d4] }
  | _ => none }
def LawS0945CNoLimitWrongFalsely : Prop := lawS0945CNoLimitRow.holds Yba.pinned (OpenSpec.ofChange lawS0945CNoLimitWrong)

/-- 'ply3.LawS0945CFifo': WHATEVER THE INPUT: true; the input reads as it did. -/
def lawS0945CFifoSpec : ChangeSpec := { name := "lawS0945CFifo", fn := fun _ => fun
  | [d1, d2, d3] => { results := [.lit (.bool true)], args := [d1, d2, d3] }
  | _ => none }
def lawS0945CFifoRow : OpenClaim := { program := "ybulksnw", sum := "c0edf32e6c3e4e951f8cf9c39e2c6c88e1fe26dcf49d887e52851eacab56718b", func := "example.com/ply3/ply3.LawS0945CFifo", spec := "lawS0945CFifo", inPlace := ["sync/atomic.StoreUint32"], unfollowed := true, recurses := true, apart := false }
def LawS0945CFifoSaid : Prop := lawS0945CFifoRow.holds Yba.pinned (OpenSpec.ofChange lawS0945CFifoSpec)

/-- ITS FALSE NEIGHBOUR: 'it returns false'. Refute it at one input. -/
def lawS0945CFifoWrong : ChangeSpec := { name := "lawS0945CFifo", fn := fun _ => fun
  | [d1, d2, d3] => { results := [.lit (.bool false)], args := [d1, d2, d3] }
  | _ => none }
def LawS0945CFifoWrongFalsely : Prop := lawS0945CFifoRow.holds Yba.pinned (OpenSpec.ofChange lawS0945CFifoWrong)

end Rows
end Go.Proofs.Ybulksnw
