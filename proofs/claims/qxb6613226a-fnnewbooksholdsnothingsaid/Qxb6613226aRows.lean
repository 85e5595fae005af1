/-
  No cell of these rows narrows 'for every input' (looked for: loops, veiled, ifaces, maps, wideKeys, modest, calm, conditions, laid).
  DERIVED. THE GIVEN ROWS OF THIS SEAT. 2 by the template 'for every input the law returns true; each argument reads behind the call as it read before'; 0 by the template 'total and deterministic' (their statements: Qxb6613226aTotals.lean).
  GIVEN WITH THE SEED: the statements are not yours to turn. If you find one false, say at which input.
  Laid BY PROGRAM, IN A SANDBOX (cutbox-rows.mjs): the forced cells as the released guide's own fill.sh prints them over the translation b50b094b2deba12d… (all of the seat's roots in one cut). By AI agents, Wed Nov 11 2026. No macro, syntax, notation, axiom, sorry.
-/
import Derived.Test.Qxb6613226aChecked
import GoSem.Claim
import GoSem.ClaimJoined
import GoSem.ClaimMapViews
import Derived.JoinedTies
import Derived.KernelRfl
namespace Go.Proofs.Qxb6613226a
/- THE CELL 'sum', in the pinned program and in every row, IS THE sha256 OF THE DUMP (.gsa) THAT Qxb6613226aProg.lean LOADS. Nothing in Lean hashes anything: it is a label: what it is worth is what the hold of that sum in a sandbox is worth. -/
noncomputable def Try.pinned : Pinned := { name := "qxb6613226a", sum := "b50b094b2deba12d7f08e90edbde8c98650b972bef1477f9e8f7173c666b3d87", checked := Try.checked }
namespace Rows
def none {H : Type} : Left H := { results := [], args := [] }

/-- 'zzlaws_records_b1.FnNewBooksHoldsNothing': WHATEVER THE INPUT: true; the input reads as it did. -/
def fnNewBooksHoldsNothingSpec : ChangeSpec := { name := "fnNewBooksHoldsNothing", fn := fun _ => fun
  | [d1, d2, d3, d4, d5] => { results := [.lit (.bool true)], args := [d1, d2, d3, d4, d5] }
  | _ => none }
def fnNewBooksHoldsNothingRow : OpenClaim := { program := "qxb6613226a", sum := "b50b094b2deba12d7f08e90edbde8c98650b972bef1477f9e8f7173c666b3d87", func := "example.com/kindred-ledger/kindred-ledger/zzlaws_records_b1.FnNewBooksHoldsNothing", spec := "fnNewBooksHoldsNothing", unfollowed := true, recurses := true, plainKeys := false, apart := false }
def FnNewBooksHoldsNothingSaid : Prop := fnNewBooksHoldsNothingRow.holds Try.pinned (OpenSpec.ofChange fnNewBooksHoldsNothingSpec)

/-- ITS FALSE NEIGHBOUR: 'it returns false'. Refute it at one input. -/
def fnNewBooksHoldsNothingWrong : ChangeSpec := { name := "fnNewBooksHoldsNothing", fn := fun _ => fun
  | [d1, d2, d3, d4, d5] => { results := [.lit (.bool false)], args := [d1, d2, d3, d4, d5] }
  | _ => none }
def FnNewBooksHoldsNothingWrongFalsely : Prop := fnNewBooksHoldsNothingRow.holds Try.pinned (OpenSpec.ofChange fnNewBooksHoldsNothingWrong)

/-- 'zzlaws_records_b1.FnNewEstimatesFindsNone': WHATEVER THE INPUT: true; the input reads as it did. -/
def fnNewEstimatesFindsNoneSpec : ChangeSpec := { name := "fnNewEstimatesFindsNone", fn := fun _ => fun
  | [d1, d2, d3, d4, d5, d6] => { results := [.lit (.bool true)], args := [d1, d2, d3, d4, d5, d6] }
  | _ => none }
def fnNewEstimatesFindsNoneRow : OpenClaim := { program := "qxb6613226a", sum := "b50b094b2deba12d7f08e90edbde8c98650b972bef1477f9e8f7173c666b3d87", func := "example.com/kindred-ledger/kindred-ledger/zzlaws_records_b1.FnNewEstimatesFindsNone", spec := "fnNewEstimatesFindsNone", unfollowed := true, recurses := true, plainKeys := false, apart := false }
def FnNewEstimatesFindsNoneSaid : Prop := fnNewEstimatesFindsNoneRow.holds Try.pinned (OpenSpec.ofChange fnNewEstimatesFindsNoneSpec)

/-- ITS FALSE NEIGHBOUR: 'it returns false'. Refute it at one input. -/
def fnNewEstimatesFindsNoneWrong : ChangeSpec := { name := "fnNewEstimatesFindsNone", fn := fun _ => fun
  | [d1, d2, d3, d4, d5, d6] => { results := [.lit (.bool false)], args := [d1, d2, d3, d4, d5, d6] }
  | _ => none }
def FnNewEstimatesFindsNoneWrongFalsely : Prop := fnNewEstimatesFindsNoneRow.holds Try.pinned (OpenSpec.ofChange fnNewEstimatesFindsNoneWrong)

end Rows
end Go.Proofs.Qxb6613226a
