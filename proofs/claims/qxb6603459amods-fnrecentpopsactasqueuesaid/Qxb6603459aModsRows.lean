/-
  No cell of these rows narrows 'for every input' (looked for: loops, veiled, ifaces, maps, wideKeys, modest, calm, conditions, laid).
  DERIVED. THE GIVEN ROWS OF THIS SEAT. 6 by the template 'for every input the law returns true; each argument reads behind the call as it read before'; 0 by the template 'total and deterministic' (their statements: Qxb6603459aModsTotals.lean).
  GIVEN WITH THE SEED: the statements are not yours to turn. If you find one false, say at which input.
  Laid BY PROGRAM, IN A SANDBOX (cutbox-rows.mjs): the forced cells as the released guide's own fill.sh prints them over the translation 8ba8d63aa49968a9… (all of the seat's roots in one cut). By AI agents, Wed Nov 11 2026. No macro, syntax, notation, axiom, sorry.
-/
import Derived.Test.Qxb6603459aModsChecked
import GoSem.Claim
import GoSem.ClaimJoined
import GoSem.ClaimMapViews
import Derived.JoinedTies
import Derived.KernelRfl
namespace Go.Proofs.Qxb6603459aMods
/- THE CELL 'sum', in the pinned program and in every row, IS THE sha256 OF THE DUMP (.gsa) THAT Qxb6603459aModsProg.lean LOADS. Nothing in Lean hashes anything: it is a label: what it is worth is what the hold of that sum in a sandbox is worth. -/
noncomputable def Trym.pinned : Pinned := { name := "qxb6603459amods", sum := "8ba8d63aa49968a943aa4e0c7fb0d7f4073c9002121317f60897601ecfd3b3aa", checked := Trym.checked }
namespace Rows
def none {H : Type} : Left H := { results := [], args := [] }

/-- 'zzlaws_pkg_consensus_b1.FnCopiesFirstMatchesHistory': WHATEVER THE INPUT: true; the input reads as it did. -/
def fnCopiesFirstMatchesHistorySpec : ChangeSpec := { name := "fnCopiesFirstMatchesHistory", fn := fun _ => fun
  | [d] => { results := [.lit (.bool true)], args := [d] }
  | _ => none }
def fnCopiesFirstMatchesHistoryRow : OpenClaim := { program := "qxb6603459amods", sum := "8ba8d63aa49968a943aa4e0c7fb0d7f4073c9002121317f60897601ecfd3b3aa", func := "example.com/replicore/replicore/zzlaws_pkg_consensus_b1.FnCopiesFirstMatchesHistory", spec := "fnCopiesFirstMatchesHistory", plainKeys := false, make := .lifted ["publicsums"], apart := false }
def FnCopiesFirstMatchesHistorySaid : Prop := fnCopiesFirstMatchesHistoryRow.holds Trym.pinned (OpenSpec.ofChange fnCopiesFirstMatchesHistorySpec)

/-- ITS FALSE NEIGHBOUR: 'it returns false'. Refute it at one input. -/
def fnCopiesFirstMatchesHistoryWrong : ChangeSpec := { name := "fnCopiesFirstMatchesHistory", fn := fun _ => fun
  | [d] => { results := [.lit (.bool false)], args := [d] }
  | _ => none }
def FnCopiesFirstMatchesHistoryWrongFalsely : Prop := fnCopiesFirstMatchesHistoryRow.holds Trym.pinned (OpenSpec.ofChange fnCopiesFirstMatchesHistoryWrong)

/-- 'zzlaws_pkg_consensus_b1.FnCopiesFirstRepeatRefused': WHATEVER THE INPUT: true; the input reads as it did. -/
def fnCopiesFirstRepeatRefusedSpec : ChangeSpec := { name := "fnCopiesFirstRepeatRefused", fn := fun _ => fun
  | [d1, d2, d3, d4, d5, d6] => { results := [.lit (.bool true)], args := [d1, d2, d3, d4, d5, d6] }
  | _ => none }
def fnCopiesFirstRepeatRefusedRow : OpenClaim := { program := "qxb6603459amods", sum := "8ba8d63aa49968a943aa4e0c7fb0d7f4073c9002121317f60897601ecfd3b3aa", func := "example.com/replicore/replicore/zzlaws_pkg_consensus_b1.FnCopiesFirstRepeatRefused", spec := "fnCopiesFirstRepeatRefused", plainKeys := false, make := .lifted ["publicsums"], apart := false }
def FnCopiesFirstRepeatRefusedSaid : Prop := fnCopiesFirstRepeatRefusedRow.holds Trym.pinned (OpenSpec.ofChange fnCopiesFirstRepeatRefusedSpec)

/-- ITS FALSE NEIGHBOUR: 'it returns false'. Refute it at one input. -/
def fnCopiesFirstRepeatRefusedWrong : ChangeSpec := { name := "fnCopiesFirstRepeatRefused", fn := fun _ => fun
  | [d1, d2, d3, d4, d5, d6] => { results := [.lit (.bool false)], args := [d1, d2, d3, d4, d5, d6] }
  | _ => none }
def FnCopiesFirstRepeatRefusedWrongFalsely : Prop := fnCopiesFirstRepeatRefusedRow.holds Trym.pinned (OpenSpec.ofChange fnCopiesFirstRepeatRefusedWrong)

/-- 'zzlaws_pkg_consensus_b1.FnRecentPlaceCaseTable': WHATEVER THE INPUT: true; the input reads as it did. -/
def fnRecentPlaceCaseTableSpec : ChangeSpec := { name := "fnRecentPlaceCaseTable", fn := fun _ => fun
  | [d1, d2, d3, d4, d5, d6, d7, d8, d9, d10] => { results := [.lit (.bool true)], args := [d1, d2, d3, d4, d5, d6, d7, d8, d9, d10] }
  | _ => none }
def fnRecentPlaceCaseTableRow : OpenClaim := { program := "qxb6603459amods", sum := "8ba8d63aa49968a943aa4e0c7fb0d7f4073c9002121317f60897601ecfd3b3aa", func := "example.com/replicore/replicore/zzlaws_pkg_consensus_b1.FnRecentPlaceCaseTable", spec := "fnRecentPlaceCaseTable", plainKeys := false, make := .lifted ["publicsums"], apart := false }
def FnRecentPlaceCaseTableSaid : Prop := fnRecentPlaceCaseTableRow.holds Trym.pinned (OpenSpec.ofChange fnRecentPlaceCaseTableSpec)

/-- ITS FALSE NEIGHBOUR: 'it returns false'. Refute it at one input. -/
def fnRecentPlaceCaseTableWrong : ChangeSpec := { name := "fnRecentPlaceCaseTable", fn := fun _ => fun
  | [d1, d2, d3, d4, d5, d6, d7, d8, d9, d10] => { results := [.lit (.bool false)], args := [d1, d2, d3, d4, d5, d6, d7, d8, d9, d10] }
  | _ => none }
def FnRecentPlaceCaseTableWrongFalsely : Prop := fnRecentPlaceCaseTableRow.holds Trym.pinned (OpenSpec.ofChange fnRecentPlaceCaseTableWrong)

/-- 'zzlaws_pkg_consensus_b1.FnRecentPlaceKeepsAccounts': WHATEVER THE INPUT: true; the input reads as it did. -/
def fnRecentPlaceKeepsAccountsSpec : ChangeSpec := { name := "fnRecentPlaceKeepsAccounts", fn := fun _ => fun
  | [d1, d2, d3, d4, d5, d6, d7, d8, d9, d10] => { results := [.lit (.bool true)], args := [d1, d2, d3, d4, d5, d6, d7, d8, d9, d10] }
  | _ => none }
def fnRecentPlaceKeepsAccountsRow : OpenClaim := { program := "qxb6603459amods", sum := "8ba8d63aa49968a943aa4e0c7fb0d7f4073c9002121317f60897601ecfd3b3aa", func := "example.com/replicore/replicore/zzlaws_pkg_consensus_b1.FnRecentPlaceKeepsAccounts", spec := "fnRecentPlaceKeepsAccounts", plainKeys := false, make := .lifted ["publicsums"], apart := false }
def FnRecentPlaceKeepsAccountsSaid : Prop := fnRecentPlaceKeepsAccountsRow.holds Trym.pinned (OpenSpec.ofChange fnRecentPlaceKeepsAccountsSpec)

/-- ITS FALSE NEIGHBOUR: 'it returns false'. Refute it at one input. -/
def fnRecentPlaceKeepsAccountsWrong : ChangeSpec := { name := "fnRecentPlaceKeepsAccounts", fn := fun _ => fun
  | [d1, d2, d3, d4, d5, d6, d7, d8, d9, d10] => { results := [.lit (.bool false)], args := [d1, d2, d3, d4, d5, d6, d7, d8, d9, d10] }
  | _ => none }
def FnRecentPlaceKeepsAccountsWrongFalsely : Prop := fnRecentPlaceKeepsAccountsRow.holds Trym.pinned (OpenSpec.ofChange fnRecentPlaceKeepsAccountsWrong)

/-- 'zzlaws_pkg_consensus_b1.FnRecentPopCaseTable': WHATEVER THE INPUT: true; the input reads as it did. -/
def fnRecentPopCaseTableSpec : ChangeSpec := { name := "fnRecentPopCaseTable", fn := fun _ => fun
  | [d1, d2, d3, d4, d5, d6, d7, d8, d9] => { results := [.lit (.bool true)], args := [d1, d2, d3, d4, d5, d6, d7, d8, d9] }
  | _ => none }
def fnRecentPopCaseTableRow : OpenClaim := { program := "qxb6603459amods", sum := "8ba8d63aa49968a943aa4e0c7fb0d7f4073c9002121317f60897601ecfd3b3aa", func := "example.com/replicore/replicore/zzlaws_pkg_consensus_b1.FnRecentPopCaseTable", spec := "fnRecentPopCaseTable", plainKeys := false, make := .lifted ["publicsums"], apart := false }
def FnRecentPopCaseTableSaid : Prop := fnRecentPopCaseTableRow.holds Trym.pinned (OpenSpec.ofChange fnRecentPopCaseTableSpec)

/-- ITS FALSE NEIGHBOUR: 'it returns false'. Refute it at one input. -/
def fnRecentPopCaseTableWrong : ChangeSpec := { name := "fnRecentPopCaseTable", fn := fun _ => fun
  | [d1, d2, d3, d4, d5, d6, d7, d8, d9] => { results := [.lit (.bool false)], args := [d1, d2, d3, d4, d5, d6, d7, d8, d9] }
  | _ => none }
def FnRecentPopCaseTableWrongFalsely : Prop := fnRecentPopCaseTableRow.holds Trym.pinned (OpenSpec.ofChange fnRecentPopCaseTableWrong)

/-- 'zzlaws_pkg_consensus_b1.FnRecentPopsActAsQueue': WHATEVER THE INPUT: true; the input reads as it did. -/
def fnRecentPopsActAsQueueSpec : ChangeSpec := { name := "fnRecentPopsActAsQueue", fn := fun _ => fun
  | [d1, d2, d3, d4, d5, d6, d7, d8, d9, d10] => { results := [.lit (.bool true)], args := [d1, d2, d3, d4, d5, d6, d7, d8, d9, d10] }
  | _ => none }
def fnRecentPopsActAsQueueRow : OpenClaim := { program := "qxb6603459amods", sum := "8ba8d63aa49968a943aa4e0c7fb0d7f4073c9002121317f60897601ecfd3b3aa", func := "example.com/replicore/replicore/zzlaws_pkg_consensus_b1.FnRecentPopsActAsQueue", spec := "fnRecentPopsActAsQueue", plainKeys := false, make := .lifted ["publicsums"], apart := false }
def FnRecentPopsActAsQueueSaid : Prop := fnRecentPopsActAsQueueRow.holds Trym.pinned (OpenSpec.ofChange fnRecentPopsActAsQueueSpec)

/-- ITS FALSE NEIGHBOUR: 'it returns false'. Refute it at one input. -/
def fnRecentPopsActAsQueueWrong : ChangeSpec := { name := "fnRecentPopsActAsQueue", fn := fun _ => fun
  | [d1, d2, d3, d4, d5, d6, d7, d8, d9, d10] => { results := [.lit (.bool false)], args := [d1, d2, d3, d4, d5, d6, d7, d8, d9, d10] }
  | _ => none }
def FnRecentPopsActAsQueueWrongFalsely : Prop := fnRecentPopsActAsQueueRow.holds Trym.pinned (OpenSpec.ofChange fnRecentPopsActAsQueueWrong)

end Rows
end Go.Proofs.Qxb6603459aMods
