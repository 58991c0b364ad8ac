/-
  No cell of these rows narrows 'for every input' (looked for: loops, veiled, ifaces, maps, wideKeys, modest, calm, conditions, laid).
  DERIVED. THE GIVEN ROWS OF THIS SEAT. 6 by the template 'for every input the law returns true; each argument reads behind the call as it read before'; 0 by the template 'total and deterministic' (their statements: Qxb6616208aTotals.lean).
  GIVEN WITH THE SEED: the statements are not yours to turn. If you find one false, say at which input.
  Laid BY PROGRAM, IN A SANDBOX (cutbox-rows.mjs): the forced cells as the released guide's own fill.sh prints them over the translation 9edd5d2f27d1f234… (all of the seat's roots in one cut). By AI agents, Wed Nov 11 2026. No macro, syntax, notation, axiom, sorry.
-/
import Derived.Test.Qxb6616208aChecked
import GoSem.Claim
import GoSem.ClaimJoined
import GoSem.ClaimMapViews
import Derived.JoinedTies
import Derived.KernelRfl
namespace Go.Proofs.Qxb6616208a
/- THE CELL 'sum', in the pinned program and in every row, IS THE sha256 OF THE DUMP (.gsa) THAT Qxb6616208aProg.lean LOADS. Nothing in Lean hashes anything: it is a label: what it is worth is what the hold of that sum in a sandbox is worth. -/
noncomputable def Try.pinned : Pinned := { name := "qxb6616208a", sum := "9edd5d2f27d1f2343b374b2d6a3c156ec46fa50d2a1ba6f94f3ba51cf8997d76", checked := Try.checked }
namespace Rows
def none {H : Type} : Left H := { results := [], args := [] }

/-- 'zzlaws_root_b1.FnPartOfValidConcatAtAnyPlace': WHATEVER THE INPUT: true; the input reads as it did. -/
def fnPartOfValidConcatAtAnyPlaceSpec : ChangeSpec := { name := "fnPartOfValidConcatAtAnyPlace", fn := fun _ => fun
  | [d1, d2, d3, d4, d5, d6, d7] => { results := [.lit (.bool true)], args := [d1, d2, d3, d4, d5, d6, d7] }
  | _ => none }
def fnPartOfValidConcatAtAnyPlaceRow : OpenClaim := { program := "qxb6616208a", sum := "9edd5d2f27d1f2343b374b2d6a3c156ec46fa50d2a1ba6f94f3ba51cf8997d76", func := "example.com/septet/septet/zzlaws_root_b1.FnPartOfValidConcatAtAnyPlace", spec := "fnPartOfValidConcatAtAnyPlace", plainKeys := false, apart := false }
def FnPartOfValidConcatAtAnyPlaceSaid : Prop := fnPartOfValidConcatAtAnyPlaceRow.holds Try.pinned (OpenSpec.ofChange fnPartOfValidConcatAtAnyPlaceSpec)

/-- ITS FALSE NEIGHBOUR: 'it returns false'. Refute it at one input. -/
def fnPartOfValidConcatAtAnyPlaceWrong : ChangeSpec := { name := "fnPartOfValidConcatAtAnyPlace", fn := fun _ => fun
  | [d1, d2, d3, d4, d5, d6, d7] => { results := [.lit (.bool false)], args := [d1, d2, d3, d4, d5, d6, d7] }
  | _ => none }
def FnPartOfValidConcatAtAnyPlaceWrongFalsely : Prop := fnPartOfValidConcatAtAnyPlaceRow.holds Try.pinned (OpenSpec.ofChange fnPartOfValidConcatAtAnyPlaceWrong)

/-- 'zzlaws_root_b1.FnPartOfFirstElementAcceptedOrSkipped': WHATEVER THE INPUT: true; the input reads as it did. -/
def fnPartOfFirstElementAcceptedOrSkippedSpec : ChangeSpec := { name := "fnPartOfFirstElementAcceptedOrSkipped", fn := fun _ => fun
  | [d1, d2, d3] => { results := [.lit (.bool true)], args := [d1, d2, d3] }
  | _ => none }
def fnPartOfFirstElementAcceptedOrSkippedRow : OpenClaim := { program := "qxb6616208a", sum := "9edd5d2f27d1f2343b374b2d6a3c156ec46fa50d2a1ba6f94f3ba51cf8997d76", func := "example.com/septet/septet/zzlaws_root_b1.FnPartOfFirstElementAcceptedOrSkipped", spec := "fnPartOfFirstElementAcceptedOrSkipped", plainKeys := false, apart := false }
def FnPartOfFirstElementAcceptedOrSkippedSaid : Prop := fnPartOfFirstElementAcceptedOrSkippedRow.holds Try.pinned (OpenSpec.ofChange fnPartOfFirstElementAcceptedOrSkippedSpec)

/-- ITS FALSE NEIGHBOUR: 'it returns false'. Refute it at one input. -/
def fnPartOfFirstElementAcceptedOrSkippedWrong : ChangeSpec := { name := "fnPartOfFirstElementAcceptedOrSkipped", fn := fun _ => fun
  | [d1, d2, d3] => { results := [.lit (.bool false)], args := [d1, d2, d3] }
  | _ => none }
def FnPartOfFirstElementAcceptedOrSkippedWrongFalsely : Prop := fnPartOfFirstElementAcceptedOrSkippedRow.holds Try.pinned (OpenSpec.ofChange fnPartOfFirstElementAcceptedOrSkippedWrong)

/-- 'zzlaws_root_b1.FnAddAtJoinsLikeModel': WHATEVER THE INPUT: true; the input reads as it did. -/
def fnAddAtJoinsLikeModelSpec : ChangeSpec := { name := "fnAddAtJoinsLikeModel", fn := fun _ => fun
  | [d] => { results := [.lit (.bool true)], args := [d] }
  | _ => none }
def fnAddAtJoinsLikeModelRow : OpenClaim := { program := "qxb6616208a", sum := "9edd5d2f27d1f2343b374b2d6a3c156ec46fa50d2a1ba6f94f3ba51cf8997d76", func := "example.com/septet/septet/zzlaws_root_b1.FnAddAtJoinsLikeModel", spec := "fnAddAtJoinsLikeModel", unfollowed := true, recurses := true, plainKeys := false, apart := false }
def FnAddAtJoinsLikeModelSaid : Prop := fnAddAtJoinsLikeModelRow.holds Try.pinned (OpenSpec.ofChange fnAddAtJoinsLikeModelSpec)

/-- ITS FALSE NEIGHBOUR: 'it returns false'. Refute it at one input. -/
def fnAddAtJoinsLikeModelWrong : ChangeSpec := { name := "fnAddAtJoinsLikeModel", fn := fun _ => fun
  | [d] => { results := [.lit (.bool false)], args := [d] }
  | _ => none }
def FnAddAtJoinsLikeModelWrongFalsely : Prop := fnAddAtJoinsLikeModelRow.holds Try.pinned (OpenSpec.ofChange fnAddAtJoinsLikeModelWrong)

/-- 'zzlaws_root_b1.FnAddAtWithLimitLikeModel': WHATEVER THE INPUT: true; the input reads as it did. -/
def fnAddAtWithLimitLikeModelSpec : ChangeSpec := { name := "fnAddAtWithLimitLikeModel", fn := fun _ => fun
  | [d1, d2] => { results := [.lit (.bool true)], args := [d1, d2] }
  | _ => none }
def fnAddAtWithLimitLikeModelRow : OpenClaim := { program := "qxb6616208a", sum := "9edd5d2f27d1f2343b374b2d6a3c156ec46fa50d2a1ba6f94f3ba51cf8997d76", func := "example.com/septet/septet/zzlaws_root_b1.FnAddAtWithLimitLikeModel", spec := "fnAddAtWithLimitLikeModel", unfollowed := true, recurses := true, plainKeys := false, apart := false }
def FnAddAtWithLimitLikeModelSaid : Prop := fnAddAtWithLimitLikeModelRow.holds Try.pinned (OpenSpec.ofChange fnAddAtWithLimitLikeModelSpec)

/-- ITS FALSE NEIGHBOUR: 'it returns false'. Refute it at one input. -/
def fnAddAtWithLimitLikeModelWrong : ChangeSpec := { name := "fnAddAtWithLimitLikeModel", fn := fun _ => fun
  | [d1, d2] => { results := [.lit (.bool false)], args := [d1, d2] }
  | _ => none }
def FnAddAtWithLimitLikeModelWrongFalsely : Prop := fnAddAtWithLimitLikeModelRow.holds Try.pinned (OpenSpec.ofChange fnAddAtWithLimitLikeModelWrong)

/-- 'zzlaws_root_b1.FnTakeAllGivesHeldInFirstArrivalOrder': WHATEVER THE INPUT: true; the input reads as it did. -/
def fnTakeAllGivesHeldInFirstArrivalOrderSpec : ChangeSpec := { name := "fnTakeAllGivesHeldInFirstArrivalOrder", fn := fun _ => fun
  | [d] => { results := [.lit (.bool true)], args := [d] }
  | _ => none }
def fnTakeAllGivesHeldInFirstArrivalOrderRow : OpenClaim := { program := "qxb6616208a", sum := "9edd5d2f27d1f2343b374b2d6a3c156ec46fa50d2a1ba6f94f3ba51cf8997d76", func := "example.com/septet/septet/zzlaws_root_b1.FnTakeAllGivesHeldInFirstArrivalOrder", spec := "fnTakeAllGivesHeldInFirstArrivalOrder", unfollowed := true, recurses := true, plainKeys := false, apart := false }
def FnTakeAllGivesHeldInFirstArrivalOrderSaid : Prop := fnTakeAllGivesHeldInFirstArrivalOrderRow.holds Try.pinned (OpenSpec.ofChange fnTakeAllGivesHeldInFirstArrivalOrderSpec)

/-- ITS FALSE NEIGHBOUR: 'it returns false'. Refute it at one input. -/
def fnTakeAllGivesHeldInFirstArrivalOrderWrong : ChangeSpec := { name := "fnTakeAllGivesHeldInFirstArrivalOrder", fn := fun _ => fun
  | [d] => { results := [.lit (.bool false)], args := [d] }
  | _ => none }
def FnTakeAllGivesHeldInFirstArrivalOrderWrongFalsely : Prop := fnTakeAllGivesHeldInFirstArrivalOrderRow.holds Try.pinned (OpenSpec.ofChange fnTakeAllGivesHeldInFirstArrivalOrderWrong)

/-- 'zzlaws_root_b1.FnTakeByReferenceSplitsHeld': WHATEVER THE INPUT: true; the input reads as it did. -/
def fnTakeByReferenceSplitsHeldSpec : ChangeSpec := { name := "fnTakeByReferenceSplitsHeld", fn := fun _ => fun
  | [d1, d2] => { results := [.lit (.bool true)], args := [d1, d2] }
  | _ => none }
def fnTakeByReferenceSplitsHeldRow : OpenClaim := { program := "qxb6616208a", sum := "9edd5d2f27d1f2343b374b2d6a3c156ec46fa50d2a1ba6f94f3ba51cf8997d76", func := "example.com/septet/septet/zzlaws_root_b1.FnTakeByReferenceSplitsHeld", spec := "fnTakeByReferenceSplitsHeld", unfollowed := true, recurses := true, plainKeys := false, apart := false }
def FnTakeByReferenceSplitsHeldSaid : Prop := fnTakeByReferenceSplitsHeldRow.holds Try.pinned (OpenSpec.ofChange fnTakeByReferenceSplitsHeldSpec)

/-- ITS FALSE NEIGHBOUR: 'it returns false'. Refute it at one input. -/
def fnTakeByReferenceSplitsHeldWrong : ChangeSpec := { name := "fnTakeByReferenceSplitsHeld", fn := fun _ => fun
  | [d1, d2] => { results := [.lit (.bool false)], args := [d1, d2] }
  | _ => none }
def FnTakeByReferenceSplitsHeldWrongFalsely : Prop := fnTakeByReferenceSplitsHeldRow.holds Try.pinned (OpenSpec.ofChange fnTakeByReferenceSplitsHeldWrong)

end Rows
end Go.Proofs.Qxb6616208a
