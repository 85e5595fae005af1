/-
  No cell of these rows narrows 'for every input' (looked for: loops, veiled, ifaces, maps, wideKeys, modest, calm, conditions, laid).
  DERIVED. THE GIVEN ROWS OF THIS SEAT. 7 by the template 'for every input the law returns true; each argument reads behind the call as it read before'; 0 by the template 'total and deterministic' (their statements: Qxb6615029aTotals.lean).
  GIVEN WITH THE SEED: the statements are not yours to turn. If you find one false, say at which input.
  Laid BY PROGRAM, IN A SANDBOX (cutbox-rows.mjs): the forced cells as the released guide's own fill.sh prints them over the translation ecf65c0ec28bf89c… (all of the seat's roots in one cut). By AI agents, Wed Nov 11 2026. No macro, syntax, notation, axiom, sorry.
-/
import Derived.Test.Qxb6615029aChecked
import GoSem.Claim
import GoSem.ClaimJoined
import GoSem.ClaimMapViews
import Derived.JoinedTies
import Derived.KernelRfl
namespace Go.Proofs.Qxb6615029a
/- THE CELL 'sum', in the pinned program and in every row, IS THE sha256 OF THE DUMP (.gsa) THAT Qxb6615029aProg.lean LOADS. Nothing in Lean hashes anything: it is a label: what it is worth is what the hold of that sum in a sandbox is worth. -/
noncomputable def Try.pinned : Pinned := { name := "qxb6615029a", sum := "ecf65c0ec28bf89c09b1635d2e1cd7333948991d3f623f17753ce725b5b1ebeb", checked := Try.checked }
namespace Rows
def none {H : Type} : Left H := { results := [], args := [] }

/-- 'zzlaws_hlc_b1.FnTimestampLessIsStrictOrderOfKey': WHATEVER THE INPUT: true; the input reads as it did. -/
def fnTimestampLessIsStrictOrderOfKeySpec : ChangeSpec := { name := "fnTimestampLessIsStrictOrderOfKey", fn := fun _ => fun
  | [d1, d2, d3, d4] => { results := [.lit (.bool true)], args := [d1, d2, d3, d4] }
  | _ => none }
def fnTimestampLessIsStrictOrderOfKeyRow : OpenClaim := { program := "qxb6615029a", sum := "ecf65c0ec28bf89c09b1635d2e1cd7333948991d3f623f17753ce725b5b1ebeb", func := "example.com/shardwright/shardwright/zzlaws_hlc_b1.FnTimestampLessIsStrictOrderOfKey", spec := "fnTimestampLessIsStrictOrderOfKey", apart := false }
def FnTimestampLessIsStrictOrderOfKeySaid : Prop := fnTimestampLessIsStrictOrderOfKeyRow.holds Try.pinned (OpenSpec.ofChange fnTimestampLessIsStrictOrderOfKeySpec)

/-- ITS FALSE NEIGHBOUR: 'it returns false'. Refute it at one input. -/
def fnTimestampLessIsStrictOrderOfKeyWrong : ChangeSpec := { name := "fnTimestampLessIsStrictOrderOfKey", fn := fun _ => fun
  | [d1, d2, d3, d4] => { results := [.lit (.bool false)], args := [d1, d2, d3, d4] }
  | _ => none }
def FnTimestampLessIsStrictOrderOfKeyWrongFalsely : Prop := fnTimestampLessIsStrictOrderOfKeyRow.holds Try.pinned (OpenSpec.ofChange fnTimestampLessIsStrictOrderOfKeyWrong)

/-- 'zzlaws_hlc_b1.FnTimestampLessNextIsSuccessor': WHATEVER THE INPUT: true; the input reads as it did. -/
def fnTimestampLessNextIsSuccessorSpec : ChangeSpec := { name := "fnTimestampLessNextIsSuccessor", fn := fun _ => fun
  | [d1, d2, d3, d4] => { results := [.lit (.bool true)], args := [d1, d2, d3, d4] }
  | _ => none }
def fnTimestampLessNextIsSuccessorRow : OpenClaim := { program := "qxb6615029a", sum := "ecf65c0ec28bf89c09b1635d2e1cd7333948991d3f623f17753ce725b5b1ebeb", func := "example.com/shardwright/shardwright/zzlaws_hlc_b1.FnTimestampLessNextIsSuccessor", spec := "fnTimestampLessNextIsSuccessor", apart := false }
def FnTimestampLessNextIsSuccessorSaid : Prop := fnTimestampLessNextIsSuccessorRow.holds Try.pinned (OpenSpec.ofChange fnTimestampLessNextIsSuccessorSpec)

/-- ITS FALSE NEIGHBOUR: 'it returns false'. Refute it at one input. -/
def fnTimestampLessNextIsSuccessorWrong : ChangeSpec := { name := "fnTimestampLessNextIsSuccessor", fn := fun _ => fun
  | [d1, d2, d3, d4] => { results := [.lit (.bool false)], args := [d1, d2, d3, d4] }
  | _ => none }
def FnTimestampLessNextIsSuccessorWrongFalsely : Prop := fnTimestampLessNextIsSuccessorRow.holds Try.pinned (OpenSpec.ofChange fnTimestampLessNextIsSuccessorWrong)

/-- 'zzlaws_hlc_b1.FnTimestampAddOrdersByShift': WHATEVER THE INPUT: true; the input reads as it did. -/
def fnTimestampAddOrdersByShiftSpec : ChangeSpec := { name := "fnTimestampAddOrdersByShift", fn := fun _ => fun
  | [d1, d2, d3, d4] => { results := [.lit (.bool true)], args := [d1, d2, d3, d4] }
  | _ => none }
def fnTimestampAddOrdersByShiftRow : OpenClaim := { program := "qxb6615029a", sum := "ecf65c0ec28bf89c09b1635d2e1cd7333948991d3f623f17753ce725b5b1ebeb", func := "example.com/shardwright/shardwright/zzlaws_hlc_b1.FnTimestampAddOrdersByShift", spec := "fnTimestampAddOrdersByShift", apart := false }
def FnTimestampAddOrdersByShiftSaid : Prop := fnTimestampAddOrdersByShiftRow.holds Try.pinned (OpenSpec.ofChange fnTimestampAddOrdersByShiftSpec)

/-- ITS FALSE NEIGHBOUR: 'it returns false'. Refute it at one input. -/
def fnTimestampAddOrdersByShiftWrong : ChangeSpec := { name := "fnTimestampAddOrdersByShift", fn := fun _ => fun
  | [d1, d2, d3, d4] => { results := [.lit (.bool false)], args := [d1, d2, d3, d4] }
  | _ => none }
def FnTimestampAddOrdersByShiftWrongFalsely : Prop := fnTimestampAddOrdersByShiftRow.holds Try.pinned (OpenSpec.ofChange fnTimestampAddOrdersByShiftWrong)

/-- 'zzlaws_hlc_b1.FnNewClockFirstUpdateIsLeastPastZero': WHATEVER THE INPUT: true; the input reads as it did. -/
def fnNewClockFirstUpdateIsLeastPastZeroSpec : ChangeSpec := { name := "fnNewClockFirstUpdateIsLeastPastZero", fn := fun _ => fun
  | [d1, d2, d3] => { results := [.lit (.bool true)], args := [d1, d2, d3] }
  | _ => none }
def fnNewClockFirstUpdateIsLeastPastZeroRow : OpenClaim := { program := "qxb6615029a", sum := "ecf65c0ec28bf89c09b1635d2e1cd7333948991d3f623f17753ce725b5b1ebeb", func := "example.com/shardwright/shardwright/zzlaws_hlc_b1.FnNewClockFirstUpdateIsLeastPastZero", spec := "fnNewClockFirstUpdateIsLeastPastZero", inPlace := ["(*internal/sync.Mutex).Lock", "internal/race.Disable", "sync/atomic.CompareAndSwapInt32", "internal/race.Enable", "internal/race.Acquire", "(*internal/sync.Mutex).lockSlow", "internal/sync.runtime_canSpin", "internal/sync.runtime_doSpin", "internal/sync.throw", "internal/sync.runtime_nanotime", "internal/sync.runtime_SemacquireMutex", "sync/atomic.AddInt32", "(*internal/sync.Mutex).Unlock", "internal/race.ReleaseMerge", "(*internal/sync.Mutex).unlockSlow", "internal/sync.fatal", "internal/sync.runtime_Semrelease"], unfollowed := true, recurses := true, apart := false }
def FnNewClockFirstUpdateIsLeastPastZeroSaid : Prop := fnNewClockFirstUpdateIsLeastPastZeroRow.holds Try.pinned (OpenSpec.ofChange fnNewClockFirstUpdateIsLeastPastZeroSpec)

/-- ITS FALSE NEIGHBOUR: 'it returns false'. Refute it at one input. -/
def fnNewClockFirstUpdateIsLeastPastZeroWrong : ChangeSpec := { name := "fnNewClockFirstUpdateIsLeastPastZero", fn := fun _ => fun
  | [d1, d2, d3] => { results := [.lit (.bool false)], args := [d1, d2, d3] }
  | _ => none }
def FnNewClockFirstUpdateIsLeastPastZeroWrongFalsely : Prop := fnNewClockFirstUpdateIsLeastPastZeroRow.holds Try.pinned (OpenSpec.ofChange fnNewClockFirstUpdateIsLeastPastZeroWrong)

/-- 'zzlaws_hlc_b1.FnNewClockScriptEachAfterAllBefore': WHATEVER THE INPUT: true; the input reads as it did. -/
def fnNewClockScriptEachAfterAllBeforeSpec : ChangeSpec := { name := "fnNewClockScriptEachAfterAllBefore", fn := fun _ => fun
  | [d1, d2, d3] => { results := [.lit (.bool true)], args := [d1, d2, d3] }
  | _ => none }
def fnNewClockScriptEachAfterAllBeforeRow : OpenClaim := { program := "qxb6615029a", sum := "ecf65c0ec28bf89c09b1635d2e1cd7333948991d3f623f17753ce725b5b1ebeb", func := "example.com/shardwright/shardwright/zzlaws_hlc_b1.FnNewClockScriptEachAfterAllBefore", spec := "fnNewClockScriptEachAfterAllBefore", inPlace := ["(*internal/sync.Mutex).Lock", "internal/race.Disable", "sync/atomic.CompareAndSwapInt32", "internal/race.Enable", "internal/race.Acquire", "(*internal/sync.Mutex).lockSlow", "internal/sync.runtime_canSpin", "internal/sync.runtime_doSpin", "internal/sync.throw", "internal/sync.runtime_nanotime", "internal/sync.runtime_SemacquireMutex", "sync/atomic.AddInt32", "(*internal/sync.Mutex).Unlock", "internal/race.ReleaseMerge", "(*internal/sync.Mutex).unlockSlow", "internal/sync.fatal", "internal/sync.runtime_Semrelease"], unfollowed := true, recurses := true, apart := false }
def FnNewClockScriptEachAfterAllBeforeSaid : Prop := fnNewClockScriptEachAfterAllBeforeRow.holds Try.pinned (OpenSpec.ofChange fnNewClockScriptEachAfterAllBeforeSpec)

/-- ITS FALSE NEIGHBOUR: 'it returns false'. Refute it at one input. -/
def fnNewClockScriptEachAfterAllBeforeWrong : ChangeSpec := { name := "fnNewClockScriptEachAfterAllBefore", fn := fun _ => fun
  | [d1, d2, d3] => { results := [.lit (.bool false)], args := [d1, d2, d3] }
  | _ => none }
def FnNewClockScriptEachAfterAllBeforeWrongFalsely : Prop := fnNewClockScriptEachAfterAllBeforeRow.holds Try.pinned (OpenSpec.ofChange fnNewClockScriptEachAfterAllBeforeWrong)

/-- 'zzlaws_hlc_b1.FnClockAdvancePastIsLeastAndKept': WHATEVER THE INPUT: true; the input reads as it did. -/
def fnClockAdvancePastIsLeastAndKeptSpec : ChangeSpec := { name := "fnClockAdvancePastIsLeastAndKept", fn := fun _ => fun
  | [d1, d2, d3] => { results := [.lit (.bool true)], args := [d1, d2, d3] }
  | _ => none }
def fnClockAdvancePastIsLeastAndKeptRow : OpenClaim := { program := "qxb6615029a", sum := "ecf65c0ec28bf89c09b1635d2e1cd7333948991d3f623f17753ce725b5b1ebeb", func := "example.com/shardwright/shardwright/zzlaws_hlc_b1.FnClockAdvancePastIsLeastAndKept", spec := "fnClockAdvancePastIsLeastAndKept", inPlace := ["(*internal/sync.Mutex).Lock", "internal/race.Disable", "sync/atomic.CompareAndSwapInt32", "internal/race.Enable", "internal/race.Acquire", "(*internal/sync.Mutex).lockSlow", "internal/sync.runtime_canSpin", "internal/sync.runtime_doSpin", "internal/sync.throw", "internal/sync.runtime_nanotime", "internal/sync.runtime_SemacquireMutex", "sync/atomic.AddInt32", "(*internal/sync.Mutex).Unlock", "internal/race.ReleaseMerge", "(*internal/sync.Mutex).unlockSlow", "internal/sync.fatal", "internal/sync.runtime_Semrelease"], unfollowed := true, recurses := true, apart := false }
def FnClockAdvancePastIsLeastAndKeptSaid : Prop := fnClockAdvancePastIsLeastAndKeptRow.holds Try.pinned (OpenSpec.ofChange fnClockAdvancePastIsLeastAndKeptSpec)

/-- ITS FALSE NEIGHBOUR: 'it returns false'. Refute it at one input. -/
def fnClockAdvancePastIsLeastAndKeptWrong : ChangeSpec := { name := "fnClockAdvancePastIsLeastAndKept", fn := fun _ => fun
  | [d1, d2, d3] => { results := [.lit (.bool false)], args := [d1, d2, d3] }
  | _ => none }
def FnClockAdvancePastIsLeastAndKeptWrongFalsely : Prop := fnClockAdvancePastIsLeastAndKeptRow.holds Try.pinned (OpenSpec.ofChange fnClockAdvancePastIsLeastAndKeptWrong)

/-- 'zzlaws_hlc_b1.FnClockAdvancePastCountsOnWhileTimeStands': WHATEVER THE INPUT: true; the input reads as it did. -/
def fnClockAdvancePastCountsOnWhileTimeStandsSpec : ChangeSpec := { name := "fnClockAdvancePastCountsOnWhileTimeStands", fn := fun _ => fun
  | [d1, d2, d3, d4] => { results := [.lit (.bool true)], args := [d1, d2, d3, d4] }
  | _ => none }
def fnClockAdvancePastCountsOnWhileTimeStandsRow : OpenClaim := { program := "qxb6615029a", sum := "ecf65c0ec28bf89c09b1635d2e1cd7333948991d3f623f17753ce725b5b1ebeb", func := "example.com/shardwright/shardwright/zzlaws_hlc_b1.FnClockAdvancePastCountsOnWhileTimeStands", spec := "fnClockAdvancePastCountsOnWhileTimeStands", unfollowed := true, recurses := true, apart := false }
def FnClockAdvancePastCountsOnWhileTimeStandsSaid : Prop := fnClockAdvancePastCountsOnWhileTimeStandsRow.holds Try.pinned (OpenSpec.ofChange fnClockAdvancePastCountsOnWhileTimeStandsSpec)

/-- ITS FALSE NEIGHBOUR: 'it returns false'. Refute it at one input. -/
def fnClockAdvancePastCountsOnWhileTimeStandsWrong : ChangeSpec := { name := "fnClockAdvancePastCountsOnWhileTimeStands", fn := fun _ => fun
  | [d1, d2, d3, d4] => { results := [.lit (.bool false)], args := [d1, d2, d3, d4] }
  | _ => none }
def FnClockAdvancePastCountsOnWhileTimeStandsWrongFalsely : Prop := fnClockAdvancePastCountsOnWhileTimeStandsRow.holds Try.pinned (OpenSpec.ofChange fnClockAdvancePastCountsOnWhileTimeStandsWrong)

end Rows
end Go.Proofs.Qxb6615029a
