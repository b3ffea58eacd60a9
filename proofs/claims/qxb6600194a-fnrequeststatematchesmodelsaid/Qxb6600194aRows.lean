/-
  No cell of these rows narrows 'for every input' (looked for: loops, veiled, ifaces, maps, wideKeys, modest, calm, conditions, laid).
  DERIVED. THE GIVEN ROWS OF THIS SEAT. 5 by the template 'for every input the law returns true; each argument reads behind the call as it read before'; 0 by the template 'total and deterministic' (their statements: Qxb6600194aTotals.lean).
  GIVEN WITH THE SEED: the statements are not yours to turn. If you find one false, say at which input.
  Laid BY PROGRAM, IN A SANDBOX (cutbox-rows.mjs): the forced cells as the released guide's own fill.sh prints them over the translation bfdebe7508838ab9… (all of the seat's roots in one cut). By AI agents, Wed Nov 11 2026. No macro, syntax, notation, axiom, sorry.
-/
import Derived.Test.Qxb6600194aChecked
import GoSem.Claim
import GoSem.ClaimJoined
import GoSem.ClaimMapViews
import Derived.JoinedTies
import Derived.KernelRfl
namespace Go.Proofs.Qxb6600194a
/- THE CELL 'sum', in the pinned program and in every row, IS THE sha256 OF THE DUMP (.gsa) THAT Qxb6600194aProg.lean LOADS. Nothing in Lean hashes anything: it is a label: what it is worth is what the hold of that sum in a sandbox is worth. -/
noncomputable def Try.pinned : Pinned := { name := "qxb6600194a", sum := "bfdebe7508838ab97cf0f67f6513709822d0beabeee43911c09cd72c9a577ba8", checked := Try.checked }
namespace Rows
def none {H : Type} : Left H := { results := [], args := [] }

/-- 'zzlaws_access_b1.FnRequestStateMatchesModel': WHATEVER THE INPUT: true; the input reads as it did. -/
def fnRequestStateMatchesModelSpec : ChangeSpec := { name := "fnRequestStateMatchesModel", fn := fun _ => fun
  | [d1, d2] => { results := [.lit (.bool true)], args := [d1, d2] }
  | _ => none }
def fnRequestStateMatchesModelRow : OpenClaim := { program := "qxb6600194a", sum := "bfdebe7508838ab97cf0f67f6513709822d0beabeee43911c09cd72c9a577ba8", func := "example.com/neti/neti/zzlaws_access_b1.FnRequestStateMatchesModel", spec := "fnRequestStateMatchesModel", apart := false }
def FnRequestStateMatchesModelSaid : Prop := fnRequestStateMatchesModelRow.holds Try.pinned (OpenSpec.ofChange fnRequestStateMatchesModelSpec)

/-- ITS FALSE NEIGHBOUR: 'it returns false'. Refute it at one input. -/
def fnRequestStateMatchesModelWrong : ChangeSpec := { name := "fnRequestStateMatchesModel", fn := fun _ => fun
  | [d1, d2] => { results := [.lit (.bool false)], args := [d1, d2] }
  | _ => none }
def FnRequestStateMatchesModelWrongFalsely : Prop := fnRequestStateMatchesModelRow.holds Try.pinned (OpenSpec.ofChange fnRequestStateMatchesModelWrong)

/-- 'zzlaws_access_b1.FnRequestStateRepeatReviewerChangesNothing': WHATEVER THE INPUT: true; the input reads as it did. -/
def fnRequestStateRepeatReviewerChangesNothingSpec : ChangeSpec := { name := "fnRequestStateRepeatReviewerChangesNothing", fn := fun _ => fun
  | [d1, d2, d3, d4] => { results := [.lit (.bool true)], args := [d1, d2, d3, d4] }
  | _ => none }
def fnRequestStateRepeatReviewerChangesNothingRow : OpenClaim := { program := "qxb6600194a", sum := "bfdebe7508838ab97cf0f67f6513709822d0beabeee43911c09cd72c9a577ba8", func := "example.com/neti/neti/zzlaws_access_b1.FnRequestStateRepeatReviewerChangesNothing", spec := "fnRequestStateRepeatReviewerChangesNothing", apart := false }
def FnRequestStateRepeatReviewerChangesNothingSaid : Prop := fnRequestStateRepeatReviewerChangesNothingRow.holds Try.pinned (OpenSpec.ofChange fnRequestStateRepeatReviewerChangesNothingSpec)

/-- ITS FALSE NEIGHBOUR: 'it returns false'. Refute it at one input. -/
def fnRequestStateRepeatReviewerChangesNothingWrong : ChangeSpec := { name := "fnRequestStateRepeatReviewerChangesNothing", fn := fun _ => fun
  | [d1, d2, d3, d4] => { results := [.lit (.bool false)], args := [d1, d2, d3, d4] }
  | _ => none }
def FnRequestStateRepeatReviewerChangesNothingWrongFalsely : Prop := fnRequestStateRepeatReviewerChangesNothingRow.holds Try.pinned (OpenSpec.ofChange fnRequestStateRepeatReviewerChangesNothingWrong)

/-- 'zzlaws_access_b1.FnRequestStateNewReviewerMovesHerWay': WHATEVER THE INPUT: true; the input reads as it did. -/
def fnRequestStateNewReviewerMovesHerWaySpec : ChangeSpec := { name := "fnRequestStateNewReviewerMovesHerWay", fn := fun _ => fun
  | [d1, d2, d3, d4] => { results := [.lit (.bool true)], args := [d1, d2, d3, d4] }
  | _ => none }
def fnRequestStateNewReviewerMovesHerWayRow : OpenClaim := { program := "qxb6600194a", sum := "bfdebe7508838ab97cf0f67f6513709822d0beabeee43911c09cd72c9a577ba8", func := "example.com/neti/neti/zzlaws_access_b1.FnRequestStateNewReviewerMovesHerWay", spec := "fnRequestStateNewReviewerMovesHerWay", apart := false }
def FnRequestStateNewReviewerMovesHerWaySaid : Prop := fnRequestStateNewReviewerMovesHerWayRow.holds Try.pinned (OpenSpec.ofChange fnRequestStateNewReviewerMovesHerWaySpec)

/-- ITS FALSE NEIGHBOUR: 'it returns false'. Refute it at one input. -/
def fnRequestStateNewReviewerMovesHerWayWrong : ChangeSpec := { name := "fnRequestStateNewReviewerMovesHerWay", fn := fun _ => fun
  | [d1, d2, d3, d4] => { results := [.lit (.bool false)], args := [d1, d2, d3, d4] }
  | _ => none }
def FnRequestStateNewReviewerMovesHerWayWrongFalsely : Prop := fnRequestStateNewReviewerMovesHerWayRow.holds Try.pinned (OpenSpec.ofChange fnRequestStateNewReviewerMovesHerWayWrong)

/-- 'zzlaws_access_b1.FnDecisionStringRoundTrip': WHATEVER THE INPUT: true; the input reads as it did. -/
def fnDecisionStringRoundTripSpec : ChangeSpec := { name := "fnDecisionStringRoundTrip", fn := fun _ => fun
  | [d1, d2] => { results := [.lit (.bool true)], args := [d1, d2] }
  | _ => none }
def fnDecisionStringRoundTripRow : OpenClaim := { program := "qxb6600194a", sum := "bfdebe7508838ab97cf0f67f6513709822d0beabeee43911c09cd72c9a577ba8", func := "example.com/neti/neti/zzlaws_access_b1.FnDecisionStringRoundTrip", spec := "fnDecisionStringRoundTrip", apart := false }
def FnDecisionStringRoundTripSaid : Prop := fnDecisionStringRoundTripRow.holds Try.pinned (OpenSpec.ofChange fnDecisionStringRoundTripSpec)

/-- ITS FALSE NEIGHBOUR: 'it returns false'. Refute it at one input. -/
def fnDecisionStringRoundTripWrong : ChangeSpec := { name := "fnDecisionStringRoundTrip", fn := fun _ => fun
  | [d1, d2] => { results := [.lit (.bool false)], args := [d1, d2] }
  | _ => none }
def FnDecisionStringRoundTripWrongFalsely : Prop := fnDecisionStringRoundTripRow.holds Try.pinned (OpenSpec.ofChange fnDecisionStringRoundTripWrong)

/-- 'zzlaws_access_b1.FnDecisionStringInjective': WHATEVER THE INPUT: true; the input reads as it did. -/
def fnDecisionStringInjectiveSpec : ChangeSpec := { name := "fnDecisionStringInjective", fn := fun _ => fun
  | [d1, d2, d3, d4] => { results := [.lit (.bool true)], args := [d1, d2, d3, d4] }
  | _ => none }
def fnDecisionStringInjectiveRow : OpenClaim := { program := "qxb6600194a", sum := "bfdebe7508838ab97cf0f67f6513709822d0beabeee43911c09cd72c9a577ba8", func := "example.com/neti/neti/zzlaws_access_b1.FnDecisionStringInjective", spec := "fnDecisionStringInjective", apart := false }
def FnDecisionStringInjectiveSaid : Prop := fnDecisionStringInjectiveRow.holds Try.pinned (OpenSpec.ofChange fnDecisionStringInjectiveSpec)

/-- ITS FALSE NEIGHBOUR: 'it returns false'. Refute it at one input. -/
def fnDecisionStringInjectiveWrong : ChangeSpec := { name := "fnDecisionStringInjective", fn := fun _ => fun
  | [d1, d2, d3, d4] => { results := [.lit (.bool false)], args := [d1, d2, d3, d4] }
  | _ => none }
def FnDecisionStringInjectiveWrongFalsely : Prop := fnDecisionStringInjectiveRow.holds Try.pinned (OpenSpec.ofChange fnDecisionStringInjectiveWrong)

end Rows
end Go.Proofs.Qxb6600194a
