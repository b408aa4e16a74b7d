import Derived.Test.Qxb6614088aRows
import Derived.Conc.MuLib
import Derived.KernelRfl
namespace Go.Proofs.Qxb6614088a.Locks

/-- The numbers under which this dump holds sync.Mutex's functions and types. -/
abbrev muLink : Go.Conc.Locks.MuLink := { lock := 25, unlock := 26, ilock := 31, iunlock := 32, lockSlow := 37, unlockSlow := 40, disable := 33, enable := 35, acquire := 36, relMerge := 38, cas32 := 34, add32 := 39, tMutex := 51, tIMutex := 49, tPMutex := 78, tPIMutex := 79, tPI32 := 81, tUP := 83, tNoCopy := 46, tU32 := 47 }
theorem muLib : Go.Conc.Locks.MuLib Try.prog muLink :=
  ⟨Try.func25, Try.func26, Try.func31, Try.func32, Try.func33, Try.func35, Try.func36, Try.func38, Try.func34, Try.func39, Try.underlying49, Try.runUnderlying49, Try.sizeOf49, Try.isAgg49, Try.zeroValue49, Try.underlying51, Try.runUnderlying51, Try.sizeOf51, Try.isAgg51, Try.zeroValue51, Try.underlying78, Try.runUnderlying78, Try.sizeOf78, Try.isAgg78, Try.zeroValue78, Try.underlying79, Try.runUnderlying79, Try.sizeOf79, Try.isAgg79, Try.zeroValue79, Try.underlying81, Try.runUnderlying81, Try.sizeOf81, Try.isAgg81, Try.zeroValue81, Try.underlying83, Try.runUnderlying83, Try.sizeOf83, Try.isAgg83, Try.zeroValue83, Try.underlying46, Try.runUnderlying46, Try.sizeOf46, Try.isAgg46, Try.zeroValue46, Try.underlying21, Try.runUnderlying21, Try.sizeOf21, Try.isAgg21, Try.zeroValue21, (by kernel_rfl)⟩
end Go.Proofs.Qxb6614088a.Locks
