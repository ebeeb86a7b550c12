/-
  No cell of these rows narrows 'for every input' (looked for: loops, veiled, ifaces, maps, wideKeys, modest, calm, conditions, laid).
  DERIVED. THE GIVEN ROWS OF THIS SEAT. 4 by the template 'for every input the law returns true; each argument reads behind the call as it read before'; 0 by the template 'total and deterministic' (their statements: Qxb6604039aTotals.lean).
  GIVEN WITH THE SEED: the statements are not yours to turn. If you find one false, say at which input.
  Laid BY PROGRAM, IN A SANDBOX (cutbox-rows.mjs): the forced cells as the released guide's own fill.sh prints them over the translation 7d6c64bef50f7ae0… (all of the seat's roots in one cut). By AI agents, Wed Nov 11 2026. No macro, syntax, notation, axiom, sorry.
-/
import Derived.Test.Qxb6604039aChecked
import GoSem.Claim
import GoSem.ClaimJoined
import GoSem.ClaimMapViews
import Derived.JoinedTies
import Derived.KernelRfl
namespace Go.Proofs.Qxb6604039a
/- THE CELL 'sum', in the pinned program and in every row, IS THE sha256 OF THE DUMP (.gsa) THAT Qxb6604039aProg.lean LOADS. Nothing in Lean hashes anything: it is a label: what it is worth is what the hold of that sum in a sandbox is worth. -/
noncomputable def Try.pinned : Pinned := { name := "qxb6604039a", sum := "7d6c64bef50f7ae0906d911b353ee63c50746b2dba5fc9b3682696d2df2aedc9", checked := Try.checked }
namespace Rows
def none {H : Type} : Left H := { results := [], args := [] }

/-- 'zzlaws_root_b1.FnComponentsAreTheCyclesInReverseTopologicalOrder': WHATEVER THE INPUT: true; the input reads as it did. -/
def fnComponentsAreTheCyclesInReverseTopologicalOrderSpec : ChangeSpec := { name := "fnComponentsAreTheCyclesInReverseTopologicalOrder", fn := fun _ => fun
  | [d] => { results := [.lit (.bool true)], args := [d] }
  | _ => none }
def fnComponentsAreTheCyclesInReverseTopologicalOrderRow : OpenClaim := { program := "qxb6604039a", sum := "7d6c64bef50f7ae0906d911b353ee63c50746b2dba5fc9b3682696d2df2aedc9", func := "example.com/serialis/serialis/zzlaws_root_b1.FnComponentsAreTheCyclesInReverseTopologicalOrder", spec := "fnComponentsAreTheCyclesInReverseTopologicalOrder", unfollowed := true, recurses := true, plainKeys := false, apart := false }
def FnComponentsAreTheCyclesInReverseTopologicalOrderSaid : Prop := fnComponentsAreTheCyclesInReverseTopologicalOrderRow.holds Try.pinned (OpenSpec.ofChange fnComponentsAreTheCyclesInReverseTopologicalOrderSpec)

/-- ITS FALSE NEIGHBOUR: 'it returns false'. Refute it at one input. -/
def fnComponentsAreTheCyclesInReverseTopologicalOrderWrong : ChangeSpec := { name := "fnComponentsAreTheCyclesInReverseTopologicalOrder", fn := fun _ => fun
  | [d] => { results := [.lit (.bool false)], args := [d] }
  | _ => none }
def FnComponentsAreTheCyclesInReverseTopologicalOrderWrongFalsely : Prop := fnComponentsAreTheCyclesInReverseTopologicalOrderRow.holds Try.pinned (OpenSpec.ofChange fnComponentsAreTheCyclesInReverseTopologicalOrderWrong)

/-- 'zzlaws_root_b1.FnWitnessIsTheEarliestConflictingPair': WHATEVER THE INPUT: true; the input reads as it did. -/
def fnWitnessIsTheEarliestConflictingPairSpec : ChangeSpec := { name := "fnWitnessIsTheEarliestConflictingPair", fn := fun _ => fun
  | [d1, d2, d3, d4, d5] => { results := [.lit (.bool true)], args := [d1, d2, d3, d4, d5] }
  | _ => none }
def fnWitnessIsTheEarliestConflictingPairRow : OpenClaim := { program := "qxb6604039a", sum := "7d6c64bef50f7ae0906d911b353ee63c50746b2dba5fc9b3682696d2df2aedc9", func := "example.com/serialis/serialis/zzlaws_root_b1.FnWitnessIsTheEarliestConflictingPair", spec := "fnWitnessIsTheEarliestConflictingPair", plainKeys := false, apart := false }
def FnWitnessIsTheEarliestConflictingPairSaid : Prop := fnWitnessIsTheEarliestConflictingPairRow.holds Try.pinned (OpenSpec.ofChange fnWitnessIsTheEarliestConflictingPairSpec)

/-- ITS FALSE NEIGHBOUR: 'it returns false'. Refute it at one input. -/
def fnWitnessIsTheEarliestConflictingPairWrong : ChangeSpec := { name := "fnWitnessIsTheEarliestConflictingPair", fn := fun _ => fun
  | [d1, d2, d3, d4, d5] => { results := [.lit (.bool false)], args := [d1, d2, d3, d4, d5] }
  | _ => none }
def FnWitnessIsTheEarliestConflictingPairWrongFalsely : Prop := fnWitnessIsTheEarliestConflictingPairRow.holds Try.pinned (OpenSpec.ofChange fnWitnessIsTheEarliestConflictingPairWrong)

/-- 'zzlaws_root_b1.FnReachWalksExactlyTheWindowAndRefusesACycle': WHATEVER THE INPUT: true; the input reads as it did. -/
def fnReachWalksExactlyTheWindowAndRefusesACycleSpec : ChangeSpec := { name := "fnReachWalksExactlyTheWindowAndRefusesACycle", fn := fun _ => fun
  | [d1, d2, d3, d4, d5, d6, d7, d8, d9, d10, d11, d12] => { results := [.lit (.bool true)], args := [d1, d2, d3, d4, d5, d6, d7, d8, d9, d10, d11, d12] }
  | _ => none }
def fnReachWalksExactlyTheWindowAndRefusesACycleRow : OpenClaim := { program := "qxb6604039a", sum := "7d6c64bef50f7ae0906d911b353ee63c50746b2dba5fc9b3682696d2df2aedc9", func := "example.com/serialis/serialis/zzlaws_root_b1.FnReachWalksExactlyTheWindowAndRefusesACycle", spec := "fnReachWalksExactlyTheWindowAndRefusesACycle", plainKeys := false, apart := false }
def FnReachWalksExactlyTheWindowAndRefusesACycleSaid : Prop := fnReachWalksExactlyTheWindowAndRefusesACycleRow.holds Try.pinned (OpenSpec.ofChange fnReachWalksExactlyTheWindowAndRefusesACycleSpec)

/-- ITS FALSE NEIGHBOUR: 'it returns false'. Refute it at one input. -/
def fnReachWalksExactlyTheWindowAndRefusesACycleWrong : ChangeSpec := { name := "fnReachWalksExactlyTheWindowAndRefusesACycle", fn := fun _ => fun
  | [d1, d2, d3, d4, d5, d6, d7, d8, d9, d10, d11, d12] => { results := [.lit (.bool false)], args := [d1, d2, d3, d4, d5, d6, d7, d8, d9, d10, d11, d12] }
  | _ => none }
def FnReachWalksExactlyTheWindowAndRefusesACycleWrongFalsely : Prop := fnReachWalksExactlyTheWindowAndRefusesACycleRow.holds Try.pinned (OpenSpec.ofChange fnReachWalksExactlyTheWindowAndRefusesACycleWrong)

/-- 'zzlaws_root_b1.FnReachTwiceInARowGivesTheSameWalk': WHATEVER THE INPUT: true; the input reads as it did. -/
def fnReachTwiceInARowGivesTheSameWalkSpec : ChangeSpec := { name := "fnReachTwiceInARowGivesTheSameWalk", fn := fun _ => fun
  | [d1, d2, d3, d4, d5, d6, d7, d8, d9, d10, d11, d12] => { results := [.lit (.bool true)], args := [d1, d2, d3, d4, d5, d6, d7, d8, d9, d10, d11, d12] }
  | _ => none }
def fnReachTwiceInARowGivesTheSameWalkRow : OpenClaim := { program := "qxb6604039a", sum := "7d6c64bef50f7ae0906d911b353ee63c50746b2dba5fc9b3682696d2df2aedc9", func := "example.com/serialis/serialis/zzlaws_root_b1.FnReachTwiceInARowGivesTheSameWalk", spec := "fnReachTwiceInARowGivesTheSameWalk", plainKeys := false, apart := false }
def FnReachTwiceInARowGivesTheSameWalkSaid : Prop := fnReachTwiceInARowGivesTheSameWalkRow.holds Try.pinned (OpenSpec.ofChange fnReachTwiceInARowGivesTheSameWalkSpec)

/-- ITS FALSE NEIGHBOUR: 'it returns false'. Refute it at one input. -/
def fnReachTwiceInARowGivesTheSameWalkWrong : ChangeSpec := { name := "fnReachTwiceInARowGivesTheSameWalk", fn := fun _ => fun
  | [d1, d2, d3, d4, d5, d6, d7, d8, d9, d10, d11, d12] => { results := [.lit (.bool false)], args := [d1, d2, d3, d4, d5, d6, d7, d8, d9, d10, d11, d12] }
  | _ => none }
def FnReachTwiceInARowGivesTheSameWalkWrongFalsely : Prop := fnReachTwiceInARowGivesTheSameWalkRow.holds Try.pinned (OpenSpec.ofChange fnReachTwiceInARowGivesTheSameWalkWrong)

end Rows
end Go.Proofs.Qxb6604039a
