/-
  No cell of these rows narrows 'for every input' (looked for: loops, veiled, ifaces, maps, wideKeys, modest, calm, conditions, laid).
  DERIVED. THE GIVEN ROWS OF THIS SEAT. 3 by the template 'for every input the law returns true; each argument reads behind the call as it read before'; 0 by the template 'total and deterministic' (their statements: Qxb6614088aTotals.lean).
  GIVEN WITH THE SEED: the statements are not yours to turn. If you find one false, say at which input.
  Laid BY PROGRAM, IN A SANDBOX (cutbox-rows.mjs): the forced cells as the released guide's own fill.sh prints them over the translation 1fad4ceb832fd4ea… (all of the seat's roots in one cut). By AI agents, Wed Nov 11 2026. No macro, syntax, notation, axiom, sorry.
-/
import Derived.Test.Qxb6614088aChecked
import GoSem.Claim
import GoSem.ClaimJoined
import GoSem.ClaimMapViews
import Derived.JoinedTies
import Derived.KernelRfl
namespace Go.Proofs.Qxb6614088a
/- THE CELL 'sum', in the pinned program and in every row, IS THE sha256 OF THE DUMP (.gsa) THAT Qxb6614088aProg.lean LOADS. Nothing in Lean hashes anything: it is a label: what it is worth is what the hold of that sum in a sandbox is worth. -/
noncomputable def Try.pinned : Pinned := { name := "qxb6614088a", sum := "1fad4ceb832fd4ea1663ca37a2b725a4a1367f25894302de1216964e96a5329a", checked := Try.checked }
namespace Rows
def none {H : Type} : Left H := { results := [], args := [] }

/-- 'zzlaws_internal_oletx_b1.FnDrainTwiceIsDrainOnce': WHATEVER THE INPUT: true; the input reads as it did. -/
def fnDrainTwiceIsDrainOnceSpec : ChangeSpec := { name := "fnDrainTwiceIsDrainOnce", fn := fun _ => fun
  | [d1, d2, d3, d4] => { results := [.lit (.bool true)], args := [d1, d2, d3, d4] }
  | _ => none }
def fnDrainTwiceIsDrainOnceRow : OpenClaim := { program := "qxb6614088a", sum := "1fad4ceb832fd4ea1663ca37a2b725a4a1367f25894302de1216964e96a5329a", func := "example.com/concordat/concordat/zzlaws_internal_oletx_b1.FnDrainTwiceIsDrainOnce", spec := "fnDrainTwiceIsDrainOnce", apart := false }
def FnDrainTwiceIsDrainOnceSaid : Prop := fnDrainTwiceIsDrainOnceRow.holds Try.pinned (OpenSpec.ofChange fnDrainTwiceIsDrainOnceSpec)

/-- ITS FALSE NEIGHBOUR: 'it returns false'. Refute it at one input. -/
def fnDrainTwiceIsDrainOnceWrong : ChangeSpec := { name := "fnDrainTwiceIsDrainOnce", fn := fun _ => fun
  | [d1, d2, d3, d4] => { results := [.lit (.bool false)], args := [d1, d2, d3, d4] }
  | _ => none }
def FnDrainTwiceIsDrainOnceWrongFalsely : Prop := fnDrainTwiceIsDrainOnceRow.holds Try.pinned (OpenSpec.ofChange fnDrainTwiceIsDrainOnceWrong)

/-- 'zzlaws_internal_oletx_b1.FnDrainScriptLeavesOneWakeUpAfterTheLastTake': WHATEVER THE INPUT: true; the input reads as it did. -/
def fnDrainScriptLeavesOneWakeUpAfterTheLastTakeSpec : ChangeSpec := { name := "fnDrainScriptLeavesOneWakeUpAfterTheLastTake", fn := fun _ => fun
  | [d1, d2, d3] => { results := [.lit (.bool true)], args := [d1, d2, d3] }
  | _ => none }
def fnDrainScriptLeavesOneWakeUpAfterTheLastTakeRow : OpenClaim := { program := "qxb6614088a", sum := "1fad4ceb832fd4ea1663ca37a2b725a4a1367f25894302de1216964e96a5329a", func := "example.com/concordat/concordat/zzlaws_internal_oletx_b1.FnDrainScriptLeavesOneWakeUpAfterTheLastTake", spec := "fnDrainScriptLeavesOneWakeUpAfterTheLastTake", apart := false }
def FnDrainScriptLeavesOneWakeUpAfterTheLastTakeSaid : Prop := fnDrainScriptLeavesOneWakeUpAfterTheLastTakeRow.holds Try.pinned (OpenSpec.ofChange fnDrainScriptLeavesOneWakeUpAfterTheLastTakeSpec)

/-- ITS FALSE NEIGHBOUR: 'it returns false'. Refute it at one input. -/
def fnDrainScriptLeavesOneWakeUpAfterTheLastTakeWrong : ChangeSpec := { name := "fnDrainScriptLeavesOneWakeUpAfterTheLastTake", fn := fun _ => fun
  | [d1, d2, d3] => { results := [.lit (.bool false)], args := [d1, d2, d3] }
  | _ => none }
def FnDrainScriptLeavesOneWakeUpAfterTheLastTakeWrongFalsely : Prop := fnDrainScriptLeavesOneWakeUpAfterTheLastTakeRow.holds Try.pinned (OpenSpec.ofChange fnDrainScriptLeavesOneWakeUpAfterTheLastTakeWrong)

/-- 'zzlaws_internal_oletx_b1.FnSetReceiveTimeoutScriptKeepsLastAndClearsOnZero': WHATEVER THE INPUT: true; the input reads as it did. -/
def fnSetReceiveTimeoutScriptKeepsLastAndClearsOnZeroSpec : ChangeSpec := { name := "fnSetReceiveTimeoutScriptKeepsLastAndClearsOnZero", fn := fun _ => fun
  | [d1, d2, d3] => { results := [.lit (.bool true)], args := [d1, d2, d3] }
  | _ => none }
def fnSetReceiveTimeoutScriptKeepsLastAndClearsOnZeroRow : OpenClaim := { program := "qxb6614088a", sum := "1fad4ceb832fd4ea1663ca37a2b725a4a1367f25894302de1216964e96a5329a", func := "example.com/concordat/concordat/zzlaws_internal_oletx_b1.FnSetReceiveTimeoutScriptKeepsLastAndClearsOnZero", spec := "fnSetReceiveTimeoutScriptKeepsLastAndClearsOnZero", inPlace := ["(*internal/sync.Mutex).Lock", "internal/race.Disable", "sync/atomic.CompareAndSwapInt32", "internal/race.Enable", "internal/race.Acquire", "(*internal/sync.Mutex).lockSlow", "internal/sync.runtime_canSpin", "internal/sync.runtime_doSpin", "internal/sync.throw", "internal/sync.runtime_nanotime", "internal/sync.runtime_SemacquireMutex", "sync/atomic.AddInt32", "(*internal/sync.Mutex).Unlock", "internal/race.ReleaseMerge", "(*internal/sync.Mutex).unlockSlow", "internal/sync.fatal", "internal/sync.runtime_Semrelease"], apart := false }
def FnSetReceiveTimeoutScriptKeepsLastAndClearsOnZeroSaid : Prop := fnSetReceiveTimeoutScriptKeepsLastAndClearsOnZeroRow.holds Try.pinned (OpenSpec.ofChange fnSetReceiveTimeoutScriptKeepsLastAndClearsOnZeroSpec)

/-- ITS FALSE NEIGHBOUR: 'it returns false'. Refute it at one input. -/
def fnSetReceiveTimeoutScriptKeepsLastAndClearsOnZeroWrong : ChangeSpec := { name := "fnSetReceiveTimeoutScriptKeepsLastAndClearsOnZero", fn := fun _ => fun
  | [d1, d2, d3] => { results := [.lit (.bool false)], args := [d1, d2, d3] }
  | _ => none }
def FnSetReceiveTimeoutScriptKeepsLastAndClearsOnZeroWrongFalsely : Prop := fnSetReceiveTimeoutScriptKeepsLastAndClearsOnZeroRow.holds Try.pinned (OpenSpec.ofChange fnSetReceiveTimeoutScriptKeepsLastAndClearsOnZeroWrong)

end Rows
end Go.Proofs.Qxb6614088a
