/- The numbers under which this seat's translation holds sync.Mutex's functions and types (after the kit's example StatsLocks). -/
import Derived.Test.Qxb6616570aProg
import Derived.Conc.MuLone
import Derived.KernelRfl
namespace Go.Proofs
abbrev Try.muLink : Go.Conc.Locks.MuLink := { lock := 59, unlock := 60, ilock := 68, iunlock := 69, lockSlow := 78, unlockSlow := 81, disable := 74, enable := 76, acquire := 77, relMerge := 79, cas32 := 75, add32 := 80, tMutex := 94, tIMutex := 92, tPMutex := 118, tPIMutex := 122, tPI32 := 124, tUP := 126, tNoCopy := 89, tU32 := 90 }
theorem Try.muLib : Go.Conc.Locks.MuLib Try.prog Try.muLink :=
  ⟨Try.func59, Try.func60, Try.func68, Try.func69, Try.func74, Try.func76, Try.func77, Try.func79, Try.func75, Try.func80, Try.underlying92, Try.runUnderlying92, Try.sizeOf92, Try.isAgg92, Try.zeroValue92, Try.underlying94, Try.runUnderlying94, Try.sizeOf94, Try.isAgg94, Try.zeroValue94, Try.underlying118, Try.runUnderlying118, Try.sizeOf118, Try.isAgg118, Try.zeroValue118, Try.underlying122, Try.runUnderlying122, Try.sizeOf122, Try.isAgg122, Try.zeroValue122, Try.underlying124, Try.runUnderlying124, Try.sizeOf124, Try.isAgg124, Try.zeroValue124, Try.underlying126, Try.runUnderlying126, Try.sizeOf126, Try.isAgg126, Try.zeroValue126, Try.underlying89, Try.runUnderlying89, Try.sizeOf89, Try.isAgg89, Try.zeroValue89, Try.underlying21, Try.runUnderlying21, Try.sizeOf21, Try.isAgg21, Try.zeroValue21, (by kernel_rfl)⟩
end Go.Proofs
