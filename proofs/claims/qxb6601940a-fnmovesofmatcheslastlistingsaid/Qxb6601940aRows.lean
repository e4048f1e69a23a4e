/-
  No cell of these rows narrows 'for every input' (looked for: loops, veiled, ifaces, maps, wideKeys, modest, calm, conditions, laid).
  DERIVED. THE GIVEN ROWS OF THIS SEAT. 7 by the template 'for every input the law returns true; each argument reads behind the call as it read before'; 0 by the template 'total and deterministic' (their statements: Qxb6601940aTotals.lean).
  GIVEN WITH THE SEED: the statements are not yours to turn. If you find one false, say at which input.
  Laid BY PROGRAM, IN A SANDBOX (cutbox-rows.mjs): the forced cells as the released guide's own fill.sh prints them over the translation ed3bee27e624b16b… (all of the seat's roots in one cut). By AI agents, Wed Nov 11 2026. No macro, syntax, notation, axiom, sorry.
-/
import Derived.Test.Qxb6601940aChecked
import GoSem.Claim
import GoSem.ClaimJoined
import GoSem.ClaimMapViews
import Derived.JoinedTies
import Derived.KernelRfl
namespace Go.Proofs.Qxb6601940a
/- THE CELL 'sum', in the pinned program and in every row, IS THE sha256 OF THE DUMP (.gsa) THAT Qxb6601940aProg.lean LOADS. Nothing in Lean hashes anything: it is a label: what it is worth is what the hold of that sum in a sandbox is worth. -/
noncomputable def Try.pinned : Pinned := { name := "qxb6601940a", sum := "ed3bee27e624b16b5f62dc798cf474b39abf7147d9f80ee0277e3caec05f93eb", checked := Try.checked }
namespace Rows
def none {H : Type} : Left H := { results := [], args := [] }

/-- 'zzlaws_placement_b1.FnMovesOfMatchesLastListing': WHATEVER THE INPUT: true; the input reads as it did. -/
def fnMovesOfMatchesLastListingSpec : ChangeSpec := { name := "fnMovesOfMatchesLastListing", fn := fun _ => fun
  | [d1, d2] => { results := [.lit (.bool true)], args := [d1, d2] }
  | _ => none }
def fnMovesOfMatchesLastListingRow : OpenClaim := { program := "qxb6601940a", sum := "ed3bee27e624b16b5f62dc798cf474b39abf7147d9f80ee0277e3caec05f93eb", func := "example.com/latticework/latticework/zzlaws_placement_b1.FnMovesOfMatchesLastListing", spec := "fnMovesOfMatchesLastListing", plainKeys := false, apart := false }
def FnMovesOfMatchesLastListingSaid : Prop := fnMovesOfMatchesLastListingRow.holds Try.pinned (OpenSpec.ofChange fnMovesOfMatchesLastListingSpec)

/-- ITS FALSE NEIGHBOUR: 'it returns false'. Refute it at one input. -/
def fnMovesOfMatchesLastListingWrong : ChangeSpec := { name := "fnMovesOfMatchesLastListing", fn := fun _ => fun
  | [d1, d2] => { results := [.lit (.bool false)], args := [d1, d2] }
  | _ => none }
def FnMovesOfMatchesLastListingWrongFalsely : Prop := fnMovesOfMatchesLastListingRow.holds Try.pinned (OpenSpec.ofChange fnMovesOfMatchesLastListingWrong)

/-- 'zzlaws_placement_b1.FnMovesOfSameListingMovesNothing': WHATEVER THE INPUT: true; the input reads as it did. -/
def fnMovesOfSameListingMovesNothingSpec : ChangeSpec := { name := "fnMovesOfSameListingMovesNothing", fn := fun _ => fun
  | [d] => { results := [.lit (.bool true)], args := [d] }
  | _ => none }
def fnMovesOfSameListingMovesNothingRow : OpenClaim := { program := "qxb6601940a", sum := "ed3bee27e624b16b5f62dc798cf474b39abf7147d9f80ee0277e3caec05f93eb", func := "example.com/latticework/latticework/zzlaws_placement_b1.FnMovesOfSameListingMovesNothing", spec := "fnMovesOfSameListingMovesNothing", plainKeys := false, apart := false }
def FnMovesOfSameListingMovesNothingSaid : Prop := fnMovesOfSameListingMovesNothingRow.holds Try.pinned (OpenSpec.ofChange fnMovesOfSameListingMovesNothingSpec)

/-- ITS FALSE NEIGHBOUR: 'it returns false'. Refute it at one input. -/
def fnMovesOfSameListingMovesNothingWrong : ChangeSpec := { name := "fnMovesOfSameListingMovesNothing", fn := fun _ => fun
  | [d] => { results := [.lit (.bool false)], args := [d] }
  | _ => none }
def FnMovesOfSameListingMovesNothingWrongFalsely : Prop := fnMovesOfSameListingMovesNothingRow.holds Try.pinned (OpenSpec.ofChange fnMovesOfSameListingMovesNothingWrong)

/-- 'zzlaws_placement_b1.FnClaimCountsPerClass': WHATEVER THE INPUT: true; the input reads as it did. -/
def fnClaimCountsPerClassSpec : ChangeSpec := { name := "fnClaimCountsPerClass", fn := fun _ => fun
  | [d1, d2, d3, d4] => { results := [.lit (.bool true)], args := [d1, d2, d3, d4] }
  | _ => none }
def fnClaimCountsPerClassRow : OpenClaim := { program := "qxb6601940a", sum := "ed3bee27e624b16b5f62dc798cf474b39abf7147d9f80ee0277e3caec05f93eb", func := "example.com/latticework/latticework/zzlaws_placement_b1.FnClaimCountsPerClass", spec := "fnClaimCountsPerClass", plainKeys := false, apart := false }
def FnClaimCountsPerClassSaid : Prop := fnClaimCountsPerClassRow.holds Try.pinned (OpenSpec.ofChange fnClaimCountsPerClassSpec)

/-- ITS FALSE NEIGHBOUR: 'it returns false'. Refute it at one input. -/
def fnClaimCountsPerClassWrong : ChangeSpec := { name := "fnClaimCountsPerClass", fn := fun _ => fun
  | [d1, d2, d3, d4] => { results := [.lit (.bool false)], args := [d1, d2, d3, d4] }
  | _ => none }
def FnClaimCountsPerClassWrongFalsely : Prop := fnClaimCountsPerClassRow.holds Try.pinned (OpenSpec.ofChange fnClaimCountsPerClassWrong)

/-- 'zzlaws_placement_b1.FnClaimCountsGoneAgreesWithIds': WHATEVER THE INPUT: true; the input reads as it did. -/
def fnClaimCountsGoneAgreesWithIdsSpec : ChangeSpec := { name := "fnClaimCountsGoneAgreesWithIds", fn := fun _ => fun
  | [d1, d2, d3, d4] => { results := [.lit (.bool true)], args := [d1, d2, d3, d4] }
  | _ => none }
def fnClaimCountsGoneAgreesWithIdsRow : OpenClaim := { program := "qxb6601940a", sum := "ed3bee27e624b16b5f62dc798cf474b39abf7147d9f80ee0277e3caec05f93eb", func := "example.com/latticework/latticework/zzlaws_placement_b1.FnClaimCountsGoneAgreesWithIds", spec := "fnClaimCountsGoneAgreesWithIds", plainKeys := false, apart := false }
def FnClaimCountsGoneAgreesWithIdsSaid : Prop := fnClaimCountsGoneAgreesWithIdsRow.holds Try.pinned (OpenSpec.ofChange fnClaimCountsGoneAgreesWithIdsSpec)

/-- ITS FALSE NEIGHBOUR: 'it returns false'. Refute it at one input. -/
def fnClaimCountsGoneAgreesWithIdsWrong : ChangeSpec := { name := "fnClaimCountsGoneAgreesWithIds", fn := fun _ => fun
  | [d1, d2, d3, d4] => { results := [.lit (.bool false)], args := [d1, d2, d3, d4] }
  | _ => none }
def FnClaimCountsGoneAgreesWithIdsWrongFalsely : Prop := fnClaimCountsGoneAgreesWithIdsRow.holds Try.pinned (OpenSpec.ofChange fnClaimCountsGoneAgreesWithIdsWrong)

/-- 'zzlaws_placement_b1.FnNumberByFirstOccurrence': WHATEVER THE INPUT: true; the input reads as it did. -/
def fnNumberByFirstOccurrenceSpec : ChangeSpec := { name := "fnNumberByFirstOccurrence", fn := fun _ => fun
  | [d1, d2, d3, d4, d5, d6] => { results := [.lit (.bool true)], args := [d1, d2, d3, d4, d5, d6] }
  | _ => none }
def fnNumberByFirstOccurrenceRow : OpenClaim := { program := "qxb6601940a", sum := "ed3bee27e624b16b5f62dc798cf474b39abf7147d9f80ee0277e3caec05f93eb", func := "example.com/latticework/latticework/zzlaws_placement_b1.FnNumberByFirstOccurrence", spec := "fnNumberByFirstOccurrence", plainKeys := false, apart := false }
def FnNumberByFirstOccurrenceSaid : Prop := fnNumberByFirstOccurrenceRow.holds Try.pinned (OpenSpec.ofChange fnNumberByFirstOccurrenceSpec)

/-- ITS FALSE NEIGHBOUR: 'it returns false'. Refute it at one input. -/
def fnNumberByFirstOccurrenceWrong : ChangeSpec := { name := "fnNumberByFirstOccurrence", fn := fun _ => fun
  | [d1, d2, d3, d4, d5, d6] => { results := [.lit (.bool false)], args := [d1, d2, d3, d4, d5, d6] }
  | _ => none }
def FnNumberByFirstOccurrenceWrongFalsely : Prop := fnNumberByFirstOccurrenceRow.holds Try.pinned (OpenSpec.ofChange fnNumberByFirstOccurrenceWrong)

/-- 'zzlaws_placement_b1.FnNumberRoundTrip': WHATEVER THE INPUT: true; the input reads as it did. -/
def fnNumberRoundTripSpec : ChangeSpec := { name := "fnNumberRoundTrip", fn := fun _ => fun
  | [d1, d2, d3, d4, d5, d6] => { results := [.lit (.bool true)], args := [d1, d2, d3, d4, d5, d6] }
  | _ => none }
def fnNumberRoundTripRow : OpenClaim := { program := "qxb6601940a", sum := "ed3bee27e624b16b5f62dc798cf474b39abf7147d9f80ee0277e3caec05f93eb", func := "example.com/latticework/latticework/zzlaws_placement_b1.FnNumberRoundTrip", spec := "fnNumberRoundTrip", plainKeys := false, apart := false }
def FnNumberRoundTripSaid : Prop := fnNumberRoundTripRow.holds Try.pinned (OpenSpec.ofChange fnNumberRoundTripSpec)

/-- ITS FALSE NEIGHBOUR: 'it returns false'. Refute it at one input. -/
def fnNumberRoundTripWrong : ChangeSpec := { name := "fnNumberRoundTrip", fn := fun _ => fun
  | [d1, d2, d3, d4, d5, d6] => { results := [.lit (.bool false)], args := [d1, d2, d3, d4, d5, d6] }
  | _ => none }
def FnNumberRoundTripWrongFalsely : Prop := fnNumberRoundTripRow.holds Try.pinned (OpenSpec.ofChange fnNumberRoundTripWrong)

/-- 'zzlaws_placement_b1.FnNumberForgetsBetweenNumberings': WHATEVER THE INPUT: true; the input reads as it did. -/
def fnNumberForgetsBetweenNumberingsSpec : ChangeSpec := { name := "fnNumberForgetsBetweenNumberings", fn := fun _ => fun
  | [d1, d2, d3, d4, d5, d6, d7, d8] => { results := [.lit (.bool true)], args := [d1, d2, d3, d4, d5, d6, d7, d8] }
  | _ => none }
def fnNumberForgetsBetweenNumberingsRow : OpenClaim := { program := "qxb6601940a", sum := "ed3bee27e624b16b5f62dc798cf474b39abf7147d9f80ee0277e3caec05f93eb", func := "example.com/latticework/latticework/zzlaws_placement_b1.FnNumberForgetsBetweenNumberings", spec := "fnNumberForgetsBetweenNumberings", plainKeys := false, apart := false }
def FnNumberForgetsBetweenNumberingsSaid : Prop := fnNumberForgetsBetweenNumberingsRow.holds Try.pinned (OpenSpec.ofChange fnNumberForgetsBetweenNumberingsSpec)

/-- ITS FALSE NEIGHBOUR: 'it returns false'. Refute it at one input. -/
def fnNumberForgetsBetweenNumberingsWrong : ChangeSpec := { name := "fnNumberForgetsBetweenNumberings", fn := fun _ => fun
  | [d1, d2, d3, d4, d5, d6, d7, d8] => { results := [.lit (.bool false)], args := [d1, d2, d3, d4, d5, d6, d7, d8] }
  | _ => none }
def FnNumberForgetsBetweenNumberingsWrongFalsely : Prop := fnNumberForgetsBetweenNumberingsRow.holds Try.pinned (OpenSpec.ofChange fnNumberForgetsBetweenNumberingsWrong)

end Rows
end Go.Proofs.Qxb6601940a
