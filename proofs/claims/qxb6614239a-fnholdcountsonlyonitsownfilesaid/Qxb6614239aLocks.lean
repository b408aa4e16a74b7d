import Derived.Test.Qxb6614239aRows
import Derived.Conc.MuLib
import Derived.KernelRfl
namespace Go.Proofs.Qxb6614239a.Locks

/-- The numbers under which this dump holds sync.Mutex's functions and types. -/
abbrev muLink : Go.Conc.Locks.MuLink := { lock := 34, unlock := 35, ilock := 39, iunlock := 40, lockSlow := 45, unlockSlow := 48, disable := 41, enable := 43, acquire := 44, relMerge := 46, cas32 := 42, add32 := 47, tMutex := 62, tIMutex := 60, tPMutex := 99, tPIMutex := 101, tPI32 := 103, tUP := 105, tNoCopy := 57, tU32 := 58 }
theorem muLib : Go.Conc.Locks.MuLib Try.prog muLink :=
  ⟨Try.func34, Try.func35, Try.func39, Try.func40, Try.func41, Try.func43, Try.func44, Try.func46, Try.func42, Try.func47, Try.underlying60, Try.runUnderlying60, Try.sizeOf60, Try.isAgg60, Try.zeroValue60, Try.underlying62, Try.runUnderlying62, Try.sizeOf62, Try.isAgg62, Try.zeroValue62, Try.underlying99, Try.runUnderlying99, Try.sizeOf99, Try.isAgg99, Try.zeroValue99, Try.underlying101, Try.runUnderlying101, Try.sizeOf101, Try.isAgg101, Try.zeroValue101, Try.underlying103, Try.runUnderlying103, Try.sizeOf103, Try.isAgg103, Try.zeroValue103, Try.underlying105, Try.runUnderlying105, Try.sizeOf105, Try.isAgg105, Try.zeroValue105, Try.underlying57, Try.runUnderlying57, Try.sizeOf57, Try.isAgg57, Try.zeroValue57, Try.underlying21, Try.runUnderlying21, Try.sizeOf21, Try.isAgg21, Try.zeroValue21, (by kernel_rfl)⟩
end Go.Proofs.Qxb6614239a.Locks
