/-
  No cell of these rows narrows 'for every input' (looked for: loops, veiled, ifaces, maps, wideKeys, modest, calm, conditions, laid).
  DERIVED. THE GIVEN ROWS OF THIS SEAT. 6 by the template 'for every input the law returns true; each argument reads behind the call as it read before'; 0 by the template 'total and deterministic' (their statements: Qxb6617838aTotals.lean).
  GIVEN WITH THE SEED: the statements are not yours to turn. If you find one false, say at which input.
  Laid BY PROGRAM, IN A SANDBOX (cutbox-rows.mjs): the forced cells as the released guide's own fill.sh prints them over the translation 0914a202cf712561… (all of the seat's roots in one cut). By AI agents, Wed Nov 11 2026. No macro, syntax, notation, axiom, sorry.
-/
import Derived.Test.Qxb6617838aChecked
import GoSem.Claim
import GoSem.ClaimJoined
import GoSem.ClaimMapViews
import Derived.JoinedTies
import Derived.KernelRfl
namespace Go.Proofs.Qxb6617838a
/- THE CELL 'sum', in the pinned program and in every row, IS THE sha256 OF THE DUMP (.gsa) THAT Qxb6617838aProg.lean LOADS. Nothing in Lean hashes anything: it is a label: what it is worth is what the hold of that sum in a sandbox is worth. -/
noncomputable def Try.pinned : Pinned := { name := "qxb6617838a", sum := "0914a202cf712561cbc1e08eeed29a5c9d3dc9eee01e32f83b749dacb5a67850", checked := Try.checked }
namespace Rows
def none {H : Type} : Left H := { results := [], args := [] }

/-- 'zzlaws_root_b1.FnDecodeMatchesIntervalTiling': WHATEVER THE INPUT: true; the input reads as it did. -/
def fnDecodeMatchesIntervalTilingSpec : ChangeSpec := { name := "fnDecodeMatchesIntervalTiling", fn := fun _ => fun
  | [d1, d2, d3] => { results := [.lit (.bool true)], args := [d1, d2, d3] }
  | _ => none }
def fnDecodeMatchesIntervalTilingRow : OpenClaim := { program := "qxb6617838a", sum := "0914a202cf712561cbc1e08eeed29a5c9d3dc9eee01e32f83b749dacb5a67850", func := "example.com/vertumnus/vertumnus/zzlaws_root_b1.FnDecodeMatchesIntervalTiling", spec := "fnDecodeMatchesIntervalTiling", apart := false }
def FnDecodeMatchesIntervalTilingSaid : Prop := fnDecodeMatchesIntervalTilingRow.holds Try.pinned (OpenSpec.ofChange fnDecodeMatchesIntervalTilingSpec)

/-- ITS FALSE NEIGHBOUR: 'it returns false'. Refute it at one input. -/
def fnDecodeMatchesIntervalTilingWrong : ChangeSpec := { name := "fnDecodeMatchesIntervalTiling", fn := fun _ => fun
  | [d1, d2, d3] => { results := [.lit (.bool false)], args := [d1, d2, d3] }
  | _ => none }
def FnDecodeMatchesIntervalTilingWrongFalsely : Prop := fnDecodeMatchesIntervalTilingRow.holds Try.pinned (OpenSpec.ofChange fnDecodeMatchesIntervalTilingWrong)

/-- 'zzlaws_root_b1.FnDecodeCoverageOrderAndPrefix': WHATEVER THE INPUT: true; the input reads as it did. -/
def fnDecodeCoverageOrderAndPrefixSpec : ChangeSpec := { name := "fnDecodeCoverageOrderAndPrefix", fn := fun _ => fun
  | [d1, d2, d3, d4] => { results := [.lit (.bool true)], args := [d1, d2, d3, d4] }
  | _ => none }
def fnDecodeCoverageOrderAndPrefixRow : OpenClaim := { program := "qxb6617838a", sum := "0914a202cf712561cbc1e08eeed29a5c9d3dc9eee01e32f83b749dacb5a67850", func := "example.com/vertumnus/vertumnus/zzlaws_root_b1.FnDecodeCoverageOrderAndPrefix", spec := "fnDecodeCoverageOrderAndPrefix", apart := false }
def FnDecodeCoverageOrderAndPrefixSaid : Prop := fnDecodeCoverageOrderAndPrefixRow.holds Try.pinned (OpenSpec.ofChange fnDecodeCoverageOrderAndPrefixSpec)

/-- ITS FALSE NEIGHBOUR: 'it returns false'. Refute it at one input. -/
def fnDecodeCoverageOrderAndPrefixWrong : ChangeSpec := { name := "fnDecodeCoverageOrderAndPrefix", fn := fun _ => fun
  | [d1, d2, d3, d4] => { results := [.lit (.bool false)], args := [d1, d2, d3, d4] }
  | _ => none }
def FnDecodeCoverageOrderAndPrefixWrongFalsely : Prop := fnDecodeCoverageOrderAndPrefixRow.holds Try.pinned (OpenSpec.ofChange fnDecodeCoverageOrderAndPrefixWrong)

/-- 'zzlaws_root_b1.FnSkipSpaceClosedForm': WHATEVER THE INPUT: true; the input reads as it did. -/
def fnSkipSpaceClosedFormSpec : ChangeSpec := { name := "fnSkipSpaceClosedForm", fn := fun _ => fun
  | [d1, d2, d3, d4] => { results := [.lit (.bool true)], args := [d1, d2, d3, d4] }
  | _ => none }
def fnSkipSpaceClosedFormRow : OpenClaim := { program := "qxb6617838a", sum := "0914a202cf712561cbc1e08eeed29a5c9d3dc9eee01e32f83b749dacb5a67850", func := "example.com/vertumnus/vertumnus/zzlaws_root_b1.FnSkipSpaceClosedForm", spec := "fnSkipSpaceClosedForm", apart := false }
def FnSkipSpaceClosedFormSaid : Prop := fnSkipSpaceClosedFormRow.holds Try.pinned (OpenSpec.ofChange fnSkipSpaceClosedFormSpec)

/-- ITS FALSE NEIGHBOUR: 'it returns false'. Refute it at one input. -/
def fnSkipSpaceClosedFormWrong : ChangeSpec := { name := "fnSkipSpaceClosedForm", fn := fun _ => fun
  | [d1, d2, d3, d4] => { results := [.lit (.bool false)], args := [d1, d2, d3, d4] }
  | _ => none }
def FnSkipSpaceClosedFormWrongFalsely : Prop := fnSkipSpaceClosedFormRow.holds Try.pinned (OpenSpec.ofChange fnSkipSpaceClosedFormWrong)

/-- 'zzlaws_root_b1.FnSkipSpaceIdempotentAndCut': WHATEVER THE INPUT: true; the input reads as it did. -/
def fnSkipSpaceIdempotentAndCutSpec : ChangeSpec := { name := "fnSkipSpaceIdempotentAndCut", fn := fun _ => fun
  | [d1, d2, d3, d4, d5] => { results := [.lit (.bool true)], args := [d1, d2, d3, d4, d5] }
  | _ => none }
def fnSkipSpaceIdempotentAndCutRow : OpenClaim := { program := "qxb6617838a", sum := "0914a202cf712561cbc1e08eeed29a5c9d3dc9eee01e32f83b749dacb5a67850", func := "example.com/vertumnus/vertumnus/zzlaws_root_b1.FnSkipSpaceIdempotentAndCut", spec := "fnSkipSpaceIdempotentAndCut", apart := false }
def FnSkipSpaceIdempotentAndCutSaid : Prop := fnSkipSpaceIdempotentAndCutRow.holds Try.pinned (OpenSpec.ofChange fnSkipSpaceIdempotentAndCutSpec)

/-- ITS FALSE NEIGHBOUR: 'it returns false'. Refute it at one input. -/
def fnSkipSpaceIdempotentAndCutWrong : ChangeSpec := { name := "fnSkipSpaceIdempotentAndCut", fn := fun _ => fun
  | [d1, d2, d3, d4, d5] => { results := [.lit (.bool false)], args := [d1, d2, d3, d4, d5] }
  | _ => none }
def FnSkipSpaceIdempotentAndCutWrongFalsely : Prop := fnSkipSpaceIdempotentAndCutRow.holds Try.pinned (OpenSpec.ofChange fnSkipSpaceIdempotentAndCutWrong)

/-- 'zzlaws_root_b1.FnEqualFoldASCIICutSymmetryAndCase': WHATEVER THE INPUT: true; the input reads as it did. -/
def fnEqualFoldASCIICutSymmetryAndCaseSpec : ChangeSpec := { name := "fnEqualFoldASCIICutSymmetryAndCase", fn := fun _ => fun
  | [d1, d2, d3] => { results := [.lit (.bool true)], args := [d1, d2, d3] }
  | _ => none }
def fnEqualFoldASCIICutSymmetryAndCaseRow : OpenClaim := { program := "qxb6617838a", sum := "0914a202cf712561cbc1e08eeed29a5c9d3dc9eee01e32f83b749dacb5a67850", func := "example.com/vertumnus/vertumnus/zzlaws_root_b1.FnEqualFoldASCIICutSymmetryAndCase", spec := "fnEqualFoldASCIICutSymmetryAndCase", apart := false }
def FnEqualFoldASCIICutSymmetryAndCaseSaid : Prop := fnEqualFoldASCIICutSymmetryAndCaseRow.holds Try.pinned (OpenSpec.ofChange fnEqualFoldASCIICutSymmetryAndCaseSpec)

/-- ITS FALSE NEIGHBOUR: 'it returns false'. Refute it at one input. -/
def fnEqualFoldASCIICutSymmetryAndCaseWrong : ChangeSpec := { name := "fnEqualFoldASCIICutSymmetryAndCase", fn := fun _ => fun
  | [d1, d2, d3] => { results := [.lit (.bool false)], args := [d1, d2, d3] }
  | _ => none }
def FnEqualFoldASCIICutSymmetryAndCaseWrongFalsely : Prop := fnEqualFoldASCIICutSymmetryAndCaseRow.holds Try.pinned (OpenSpec.ofChange fnEqualFoldASCIICutSymmetryAndCaseWrong)

/-- 'zzlaws_root_b1.FnEqualFoldASCIIOneByteEdit': WHATEVER THE INPUT: true; the input reads as it did. -/
def fnEqualFoldASCIIOneByteEditSpec : ChangeSpec := { name := "fnEqualFoldASCIIOneByteEdit", fn := fun _ => fun
  | [d1, d2, d3] => { results := [.lit (.bool true)], args := [d1, d2, d3] }
  | _ => none }
def fnEqualFoldASCIIOneByteEditRow : OpenClaim := { program := "qxb6617838a", sum := "0914a202cf712561cbc1e08eeed29a5c9d3dc9eee01e32f83b749dacb5a67850", func := "example.com/vertumnus/vertumnus/zzlaws_root_b1.FnEqualFoldASCIIOneByteEdit", spec := "fnEqualFoldASCIIOneByteEdit", apart := false }
def FnEqualFoldASCIIOneByteEditSaid : Prop := fnEqualFoldASCIIOneByteEditRow.holds Try.pinned (OpenSpec.ofChange fnEqualFoldASCIIOneByteEditSpec)

/-- ITS FALSE NEIGHBOUR: 'it returns false'. Refute it at one input. -/
def fnEqualFoldASCIIOneByteEditWrong : ChangeSpec := { name := "fnEqualFoldASCIIOneByteEdit", fn := fun _ => fun
  | [d1, d2, d3] => { results := [.lit (.bool false)], args := [d1, d2, d3] }
  | _ => none }
def FnEqualFoldASCIIOneByteEditWrongFalsely : Prop := fnEqualFoldASCIIOneByteEditRow.holds Try.pinned (OpenSpec.ofChange fnEqualFoldASCIIOneByteEditWrong)

end Rows
end Go.Proofs.Qxb6617838a
