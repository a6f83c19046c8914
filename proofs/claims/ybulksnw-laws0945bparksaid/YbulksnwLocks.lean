import Derived.Test.YbulksnwProg
import Derived.Conc.MuLone
import Derived.Conc.MuData
import Derived.KernelRfl
namespace Go.Proofs
/-- The numbers under which this dump holds sync.Mutex's functions and types. -/
abbrev Yba.muLink : Go.Conc.Locks.MuLink := { lock := 36, unlock := 38, ilock := 53, iunlock := 55, lockSlow := 65, unlockSlow := 69, disable := 61, enable := 63, acquire := 64, relMerge := 67, cas32 := 62, add32 := 68, tMutex := 33, tIMutex := 31, tPMutex := 86, tPIMutex := 170, tPI32 := 130, tUP := 43, tNoCopy := 28, tU32 := 29 }
theorem Yba.muLib : Go.Conc.Locks.MuLib Yba.prog Yba.muLink :=
  ⟨Yba.func36, Yba.func38, Yba.func53, Yba.func55, Yba.func61, Yba.func63, Yba.func64, Yba.func67, Yba.func62, Yba.func68, Yba.underlying31, Yba.runUnderlying31, Yba.sizeOf31, Yba.isAgg31, Yba.zeroValue31, Yba.underlying33, Yba.runUnderlying33, Yba.sizeOf33, Yba.isAgg33, Yba.zeroValue33, Yba.underlying86, Yba.runUnderlying86, Yba.sizeOf86, Yba.isAgg86, Yba.zeroValue86, Yba.underlying170, Yba.runUnderlying170, Yba.sizeOf170, Yba.isAgg170, Yba.zeroValue170, Yba.underlying130, Yba.runUnderlying130, Yba.sizeOf130, Yba.isAgg130, Yba.zeroValue130, Yba.underlying43, Yba.runUnderlying43, Yba.sizeOf43, Yba.isAgg43, Yba.zeroValue43, Yba.underlying28, Yba.runUnderlying28, Yba.sizeOf28, Yba.isAgg28, Yba.zeroValue28, Yba.underlying21, Yba.runUnderlying21, Yba.sizeOf21, Yba.isAgg21, Yba.zeroValue21, (by kernel_rfl)⟩
end Go.Proofs
