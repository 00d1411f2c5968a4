/-
  No cell of these rows narrows 'for every input' (looked for: loops, veiled, ifaces, maps, wideKeys, modest, calm, conditions, laid).
  DERIVED. THE GIVEN ROWS OF THIS SEAT. 6 by the template 'for every input the law returns true; each argument reads behind the call as it read before'; 0 by the template 'total and deterministic' (their statements: Qxb6600392aModsTotals.lean).
  GIVEN WITH THE SEED: the statements are not yours to turn. If you find one false, say at which input.
  Laid BY PROGRAM, IN A SANDBOX (cutbox-rows.mjs): the forced cells as the released guide's own fill.sh prints them over the translation 4006d8adae19248a… (all of the seat's roots in one cut). By AI agents, Wed Nov 11 2026. No macro, syntax, notation, axiom, sorry.
-/
import Derived.Test.Qxb6600392aModsChecked
import GoSem.Claim
import GoSem.ClaimJoined
import GoSem.ClaimMapViews
import Derived.JoinedTies
import Derived.KernelRfl
namespace Go.Proofs.Qxb6600392aMods
/- THE CELL 'sum', in the pinned program and in every row, IS THE sha256 OF THE DUMP (.gsa) THAT Qxb6600392aModsProg.lean LOADS. Nothing in Lean hashes anything: it is a label: what it is worth is what the hold of that sum in a sandbox is worth. -/
noncomputable def Trym.pinned : Pinned := { name := "qxb6600392amods", sum := "4006d8adae19248aff866e6e7bff339a426fc4ca38cd6ab017cbd8e67689eae8", checked := Trym.checked }
namespace Rows
def none {H : Type} : Left H := { results := [], args := [] }

/-- 'zzlaws_internal_diff_b1.FnCheckChangesLongestKeptPrefix': WHATEVER THE INPUT: true; the input reads as it did. -/
def fnCheckChangesLongestKeptPrefixSpec : ChangeSpec := { name := "fnCheckChangesLongestKeptPrefix", fn := fun _ => fun
  | [d1, d2, d3, d4] => { results := [.lit (.bool true)], args := [d1, d2, d3, d4] }
  | _ => none }
def fnCheckChangesLongestKeptPrefixRow : OpenClaim := { program := "qxb6600392amods", sum := "4006d8adae19248aff866e6e7bff339a426fc4ca38cd6ab017cbd8e67689eae8", func := "example.com/schema-pull-requests/schema-pull-requests/zzlaws_internal_diff_b1.FnCheckChangesLongestKeptPrefix", spec := "fnCheckChangesLongestKeptPrefix", plainKeys := false, make := .lifted ["publicsums"], apart := false }
def FnCheckChangesLongestKeptPrefixSaid : Prop := fnCheckChangesLongestKeptPrefixRow.holds Trym.pinned (OpenSpec.ofChange fnCheckChangesLongestKeptPrefixSpec)

/-- ITS FALSE NEIGHBOUR: 'it returns false'. Refute it at one input. -/
def fnCheckChangesLongestKeptPrefixWrong : ChangeSpec := { name := "fnCheckChangesLongestKeptPrefix", fn := fun _ => fun
  | [d1, d2, d3, d4] => { results := [.lit (.bool false)], args := [d1, d2, d3, d4] }
  | _ => none }
def FnCheckChangesLongestKeptPrefixWrongFalsely : Prop := fnCheckChangesLongestKeptPrefixRow.holds Trym.pinned (OpenSpec.ofChange fnCheckChangesLongestKeptPrefixWrong)

/-- 'zzlaws_internal_diff_b1.FnCheckChangesReplayGivesTarget': WHATEVER THE INPUT: true; the input reads as it did. -/
def fnCheckChangesReplayGivesTargetSpec : ChangeSpec := { name := "fnCheckChangesReplayGivesTarget", fn := fun _ => fun
  | [d1, d2, d3, d4] => { results := [.lit (.bool true)], args := [d1, d2, d3, d4] }
  | _ => none }
def fnCheckChangesReplayGivesTargetRow : OpenClaim := { program := "qxb6600392amods", sum := "4006d8adae19248aff866e6e7bff339a426fc4ca38cd6ab017cbd8e67689eae8", func := "example.com/schema-pull-requests/schema-pull-requests/zzlaws_internal_diff_b1.FnCheckChangesReplayGivesTarget", spec := "fnCheckChangesReplayGivesTarget", plainKeys := false, make := .lifted ["publicsums"], apart := false }
def FnCheckChangesReplayGivesTargetSaid : Prop := fnCheckChangesReplayGivesTargetRow.holds Trym.pinned (OpenSpec.ofChange fnCheckChangesReplayGivesTargetSpec)

/-- ITS FALSE NEIGHBOUR: 'it returns false'. Refute it at one input. -/
def fnCheckChangesReplayGivesTargetWrong : ChangeSpec := { name := "fnCheckChangesReplayGivesTarget", fn := fun _ => fun
  | [d1, d2, d3, d4] => { results := [.lit (.bool false)], args := [d1, d2, d3, d4] }
  | _ => none }
def FnCheckChangesReplayGivesTargetWrongFalsely : Prop := fnCheckChangesReplayGivesTargetRow.holds Trym.pinned (OpenSpec.ofChange fnCheckChangesReplayGivesTargetWrong)

/-- 'zzlaws_internal_diff_b1.FnRemainingIndexesMoreColumnsNeverDropMore': WHATEVER THE INPUT: true; the input reads as it did. -/
def fnRemainingIndexesMoreColumnsNeverDropMoreSpec : ChangeSpec := { name := "fnRemainingIndexesMoreColumnsNeverDropMore", fn := fun _ => fun
  | [d1, d2, d3] => { results := [.lit (.bool true)], args := [d1, d2, d3] }
  | _ => none }
def fnRemainingIndexesMoreColumnsNeverDropMoreRow : OpenClaim := { program := "qxb6600392amods", sum := "4006d8adae19248aff866e6e7bff339a426fc4ca38cd6ab017cbd8e67689eae8", func := "example.com/schema-pull-requests/schema-pull-requests/zzlaws_internal_diff_b1.FnRemainingIndexesMoreColumnsNeverDropMore", spec := "fnRemainingIndexesMoreColumnsNeverDropMore", plainKeys := false, make := .lifted ["publicsums"], apart := false }
def FnRemainingIndexesMoreColumnsNeverDropMoreSaid : Prop := fnRemainingIndexesMoreColumnsNeverDropMoreRow.holds Trym.pinned (OpenSpec.ofChange fnRemainingIndexesMoreColumnsNeverDropMoreSpec)

/-- ITS FALSE NEIGHBOUR: 'it returns false'. Refute it at one input. -/
def fnRemainingIndexesMoreColumnsNeverDropMoreWrong : ChangeSpec := { name := "fnRemainingIndexesMoreColumnsNeverDropMore", fn := fun _ => fun
  | [d1, d2, d3] => { results := [.lit (.bool false)], args := [d1, d2, d3] }
  | _ => none }
def FnRemainingIndexesMoreColumnsNeverDropMoreWrongFalsely : Prop := fnRemainingIndexesMoreColumnsNeverDropMoreRow.holds Trym.pinned (OpenSpec.ofChange fnRemainingIndexesMoreColumnsNeverDropMoreWrong)

/-- 'zzlaws_internal_diff_b1.FnMadeIndexesKeptDropsOnlyMadeIndexes': WHATEVER THE INPUT: true; the input reads as it did. -/
def fnMadeIndexesKeptDropsOnlyMadeIndexesSpec : ChangeSpec := { name := "fnMadeIndexesKeptDropsOnlyMadeIndexes", fn := fun _ => fun
  | [d] => { results := [.lit (.bool true)], args := [d] }
  | _ => none }
def fnMadeIndexesKeptDropsOnlyMadeIndexesRow : OpenClaim := { program := "qxb6600392amods", sum := "4006d8adae19248aff866e6e7bff339a426fc4ca38cd6ab017cbd8e67689eae8", func := "example.com/schema-pull-requests/schema-pull-requests/zzlaws_internal_diff_b1.FnMadeIndexesKeptDropsOnlyMadeIndexes", spec := "fnMadeIndexesKeptDropsOnlyMadeIndexes", plainKeys := false, make := .lifted ["publicsums"], apart := false }
def FnMadeIndexesKeptDropsOnlyMadeIndexesSaid : Prop := fnMadeIndexesKeptDropsOnlyMadeIndexesRow.holds Trym.pinned (OpenSpec.ofChange fnMadeIndexesKeptDropsOnlyMadeIndexesSpec)

/-- ITS FALSE NEIGHBOUR: 'it returns false'. Refute it at one input. -/
def fnMadeIndexesKeptDropsOnlyMadeIndexesWrong : ChangeSpec := { name := "fnMadeIndexesKeptDropsOnlyMadeIndexes", fn := fun _ => fun
  | [d] => { results := [.lit (.bool false)], args := [d] }
  | _ => none }
def FnMadeIndexesKeptDropsOnlyMadeIndexesWrongFalsely : Prop := fnMadeIndexesKeptDropsOnlyMadeIndexesRow.holds Trym.pinned (OpenSpec.ofChange fnMadeIndexesKeptDropsOnlyMadeIndexesWrong)

/-- 'zzlaws_internal_diff_b1.FnMadeIndexesKeptEveryMadeIndexStaysServed': WHATEVER THE INPUT: true; the input reads as it did. -/
def fnMadeIndexesKeptEveryMadeIndexStaysServedSpec : ChangeSpec := { name := "fnMadeIndexesKeptEveryMadeIndexStaysServed", fn := fun _ => fun
  | [d] => { results := [.lit (.bool true)], args := [d] }
  | _ => none }
def fnMadeIndexesKeptEveryMadeIndexStaysServedRow : OpenClaim := { program := "qxb6600392amods", sum := "4006d8adae19248aff866e6e7bff339a426fc4ca38cd6ab017cbd8e67689eae8", func := "example.com/schema-pull-requests/schema-pull-requests/zzlaws_internal_diff_b1.FnMadeIndexesKeptEveryMadeIndexStaysServed", spec := "fnMadeIndexesKeptEveryMadeIndexStaysServed", plainKeys := false, make := .lifted ["publicsums"], apart := false }
def FnMadeIndexesKeptEveryMadeIndexStaysServedSaid : Prop := fnMadeIndexesKeptEveryMadeIndexStaysServedRow.holds Trym.pinned (OpenSpec.ofChange fnMadeIndexesKeptEveryMadeIndexStaysServedSpec)

/-- ITS FALSE NEIGHBOUR: 'it returns false'. Refute it at one input. -/
def fnMadeIndexesKeptEveryMadeIndexStaysServedWrong : ChangeSpec := { name := "fnMadeIndexesKeptEveryMadeIndexStaysServed", fn := fun _ => fun
  | [d] => { results := [.lit (.bool false)], args := [d] }
  | _ => none }
def FnMadeIndexesKeptEveryMadeIndexStaysServedWrongFalsely : Prop := fnMadeIndexesKeptEveryMadeIndexStaysServedRow.holds Trym.pinned (OpenSpec.ofChange fnMadeIndexesKeptEveryMadeIndexStaysServedWrong)

/-- 'zzlaws_internal_diff_b1.FnMadeIndexesKeptDropsNothingWithoutCause': WHATEVER THE INPUT: true; the input reads as it did. -/
def fnMadeIndexesKeptDropsNothingWithoutCauseSpec : ChangeSpec := { name := "fnMadeIndexesKeptDropsNothingWithoutCause", fn := fun _ => fun
  | [d] => { results := [.lit (.bool true)], args := [d] }
  | _ => none }
def fnMadeIndexesKeptDropsNothingWithoutCauseRow : OpenClaim := { program := "qxb6600392amods", sum := "4006d8adae19248aff866e6e7bff339a426fc4ca38cd6ab017cbd8e67689eae8", func := "example.com/schema-pull-requests/schema-pull-requests/zzlaws_internal_diff_b1.FnMadeIndexesKeptDropsNothingWithoutCause", spec := "fnMadeIndexesKeptDropsNothingWithoutCause", plainKeys := false, make := .lifted ["publicsums"], apart := false }
def FnMadeIndexesKeptDropsNothingWithoutCauseSaid : Prop := fnMadeIndexesKeptDropsNothingWithoutCauseRow.holds Trym.pinned (OpenSpec.ofChange fnMadeIndexesKeptDropsNothingWithoutCauseSpec)

/-- ITS FALSE NEIGHBOUR: 'it returns false'. Refute it at one input. -/
def fnMadeIndexesKeptDropsNothingWithoutCauseWrong : ChangeSpec := { name := "fnMadeIndexesKeptDropsNothingWithoutCause", fn := fun _ => fun
  | [d] => { results := [.lit (.bool false)], args := [d] }
  | _ => none }
def FnMadeIndexesKeptDropsNothingWithoutCauseWrongFalsely : Prop := fnMadeIndexesKeptDropsNothingWithoutCauseRow.holds Trym.pinned (OpenSpec.ofChange fnMadeIndexesKeptDropsNothingWithoutCauseWrong)

end Rows
end Go.Proofs.Qxb6600392aMods
