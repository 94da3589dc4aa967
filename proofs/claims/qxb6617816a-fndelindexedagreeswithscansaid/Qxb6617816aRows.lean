/-
  No cell of these rows narrows 'for every input' (looked for: loops, veiled, ifaces, maps, wideKeys, modest, calm, conditions, laid).
  DERIVED. THE GIVEN ROWS OF THIS SEAT. 4 by the template 'for every input the law returns true; each argument reads behind the call as it read before'; 0 by the template 'total and deterministic' (their statements: Qxb6617816aTotals.lean).
  GIVEN WITH THE SEED: the statements are not yours to turn. If you find one false, say at which input.
  Laid BY PROGRAM, IN A SANDBOX (cutbox-rows.mjs): the forced cells as the released guide's own fill.sh prints them over the translation 2b6149a0c90e435b… (all of the seat's roots in one cut). By AI agents, Wed Nov 11 2026. No macro, syntax, notation, axiom, sorry.
-/
import Derived.Test.Qxb6617816aChecked
import GoSem.Claim
import GoSem.ClaimJoined
import GoSem.ClaimMapViews
import Derived.JoinedTies
import Derived.KernelRfl
namespace Go.Proofs.Qxb6617816a
/- THE CELL 'sum', in the pinned program and in every row, IS THE sha256 OF THE DUMP (.gsa) THAT Qxb6617816aProg.lean LOADS. Nothing in Lean hashes anything: it is a label: what it is worth is what the hold of that sum in a sandbox is worth. -/
noncomputable def Try.pinned : Pinned := { name := "qxb6617816a", sum := "2b6149a0c90e435b07e1f8d3012c15e1829706e3346d740236e0c6b161e1877a", checked := Try.checked }
namespace Rows
def none {H : Type} : Left H := { results := [], args := [] }

/-- 'zzlaws_internal_header_b1.FnHoldsListCommaSplitsAtUnquotedPrefix': WHATEVER THE INPUT: true; the input reads as it did. -/
def fnHoldsListCommaSplitsAtUnquotedPrefixSpec : ChangeSpec := { name := "fnHoldsListCommaSplitsAtUnquotedPrefix", fn := fun _ => fun
  | [d1, d2] => { results := [.lit (.bool true)], args := [d1, d2] }
  | _ => none }
def fnHoldsListCommaSplitsAtUnquotedPrefixRow : OpenClaim := { program := "qxb6617816a", sum := "2b6149a0c90e435b07e1f8d3012c15e1829706e3346d740236e0c6b161e1877a", func := "example.com/upright-rewriter/upright-rewriter/zzlaws_internal_header_b1.FnHoldsListCommaSplitsAtUnquotedPrefix", spec := "fnHoldsListCommaSplitsAtUnquotedPrefix", apart := false }
def FnHoldsListCommaSplitsAtUnquotedPrefixSaid : Prop := fnHoldsListCommaSplitsAtUnquotedPrefixRow.holds Try.pinned (OpenSpec.ofChange fnHoldsListCommaSplitsAtUnquotedPrefixSpec)

/-- ITS FALSE NEIGHBOUR: 'it returns false'. Refute it at one input. -/
def fnHoldsListCommaSplitsAtUnquotedPrefixWrong : ChangeSpec := { name := "fnHoldsListCommaSplitsAtUnquotedPrefix", fn := fun _ => fun
  | [d1, d2] => { results := [.lit (.bool false)], args := [d1, d2] }
  | _ => none }
def FnHoldsListCommaSplitsAtUnquotedPrefixWrongFalsely : Prop := fnHoldsListCommaSplitsAtUnquotedPrefixRow.holds Try.pinned (OpenSpec.ofChange fnHoldsListCommaSplitsAtUnquotedPrefixWrong)

/-- 'zzlaws_internal_header_b1.FnHoldsListCommaQuotedStringHidesCommas': WHATEVER THE INPUT: true; the input reads as it did. -/
def fnHoldsListCommaQuotedStringHidesCommasSpec : ChangeSpec := { name := "fnHoldsListCommaQuotedStringHidesCommas", fn := fun _ => fun
  | [d1, d2] => { results := [.lit (.bool true)], args := [d1, d2] }
  | _ => none }
def fnHoldsListCommaQuotedStringHidesCommasRow : OpenClaim := { program := "qxb6617816a", sum := "2b6149a0c90e435b07e1f8d3012c15e1829706e3346d740236e0c6b161e1877a", func := "example.com/upright-rewriter/upright-rewriter/zzlaws_internal_header_b1.FnHoldsListCommaQuotedStringHidesCommas", spec := "fnHoldsListCommaQuotedStringHidesCommas", apart := false }
def FnHoldsListCommaQuotedStringHidesCommasSaid : Prop := fnHoldsListCommaQuotedStringHidesCommasRow.holds Try.pinned (OpenSpec.ofChange fnHoldsListCommaQuotedStringHidesCommasSpec)

/-- ITS FALSE NEIGHBOUR: 'it returns false'. Refute it at one input. -/
def fnHoldsListCommaQuotedStringHidesCommasWrong : ChangeSpec := { name := "fnHoldsListCommaQuotedStringHidesCommas", fn := fun _ => fun
  | [d1, d2] => { results := [.lit (.bool false)], args := [d1, d2] }
  | _ => none }
def FnHoldsListCommaQuotedStringHidesCommasWrongFalsely : Prop := fnHoldsListCommaQuotedStringHidesCommasRow.holds Try.pinned (OpenSpec.ofChange fnHoldsListCommaQuotedStringHidesCommasWrong)

/-- 'zzlaws_internal_header_b1.FnDelScriptLeavesExactlyTheOthers': WHATEVER THE INPUT: true; the input reads as it did. -/
def fnDelScriptLeavesExactlyTheOthersSpec : ChangeSpec := { name := "fnDelScriptLeavesExactlyTheOthers", fn := fun _ => fun
  | [d1, d2, d3, d4] => { results := [.lit (.bool true)], args := [d1, d2, d3, d4] }
  | _ => none }
def fnDelScriptLeavesExactlyTheOthersRow : OpenClaim := { program := "qxb6617816a", sum := "2b6149a0c90e435b07e1f8d3012c15e1829706e3346d740236e0c6b161e1877a", func := "example.com/upright-rewriter/upright-rewriter/zzlaws_internal_header_b1.FnDelScriptLeavesExactlyTheOthers", spec := "fnDelScriptLeavesExactlyTheOthers", apart := false }
def FnDelScriptLeavesExactlyTheOthersSaid : Prop := fnDelScriptLeavesExactlyTheOthersRow.holds Try.pinned (OpenSpec.ofChange fnDelScriptLeavesExactlyTheOthersSpec)

/-- ITS FALSE NEIGHBOUR: 'it returns false'. Refute it at one input. -/
def fnDelScriptLeavesExactlyTheOthersWrong : ChangeSpec := { name := "fnDelScriptLeavesExactlyTheOthers", fn := fun _ => fun
  | [d1, d2, d3, d4] => { results := [.lit (.bool false)], args := [d1, d2, d3, d4] }
  | _ => none }
def FnDelScriptLeavesExactlyTheOthersWrongFalsely : Prop := fnDelScriptLeavesExactlyTheOthersRow.holds Try.pinned (OpenSpec.ofChange fnDelScriptLeavesExactlyTheOthersWrong)

/-- 'zzlaws_internal_header_b1.FnDelIndexedAgreesWithScan': WHATEVER THE INPUT: true; the input reads as it did. -/
def fnDelIndexedAgreesWithScanSpec : ChangeSpec := { name := "fnDelIndexedAgreesWithScan", fn := fun _ => fun
  | [d1, d2, d3] => { results := [.lit (.bool true)], args := [d1, d2, d3] }
  | _ => none }
def fnDelIndexedAgreesWithScanRow : OpenClaim := { program := "qxb6617816a", sum := "2b6149a0c90e435b07e1f8d3012c15e1829706e3346d740236e0c6b161e1877a", func := "example.com/upright-rewriter/upright-rewriter/zzlaws_internal_header_b1.FnDelIndexedAgreesWithScan", spec := "fnDelIndexedAgreesWithScan", apart := false }
def FnDelIndexedAgreesWithScanSaid : Prop := fnDelIndexedAgreesWithScanRow.holds Try.pinned (OpenSpec.ofChange fnDelIndexedAgreesWithScanSpec)

/-- ITS FALSE NEIGHBOUR: 'it returns false'. Refute it at one input. -/
def fnDelIndexedAgreesWithScanWrong : ChangeSpec := { name := "fnDelIndexedAgreesWithScan", fn := fun _ => fun
  | [d1, d2, d3] => { results := [.lit (.bool false)], args := [d1, d2, d3] }
  | _ => none }
def FnDelIndexedAgreesWithScanWrongFalsely : Prop := fnDelIndexedAgreesWithScanRow.holds Try.pinned (OpenSpec.ofChange fnDelIndexedAgreesWithScanWrong)

end Rows
end Go.Proofs.Qxb6617816a
