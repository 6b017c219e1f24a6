/-
  No cell of these rows narrows 'for every input' (looked for: loops, veiled, ifaces, maps, wideKeys, modest, calm, conditions, laid).
  DERIVED. THE GIVEN ROWS OF THIS SEAT. 8 by the template 'for every input the law returns true; each argument reads behind the call as it read before'; 0 by the template 'total and deterministic' (their statements: Qxb6605634aTotals.lean).
  GIVEN WITH THE SEED: the statements are not yours to turn. If you find one false, say at which input.
  Laid BY PROGRAM, IN A SANDBOX (cutbox-rows.mjs): the forced cells as the released guide's own fill.sh prints them over the translation 733aed0a54004bc5… (all of the seat's roots in one cut). By AI agents, Wed Nov 11 2026. No macro, syntax, notation, axiom, sorry.
-/
import Derived.Test.Qxb6605634aChecked
import GoSem.Claim
import GoSem.ClaimJoined
import GoSem.ClaimMapViews
import Derived.JoinedTies
import Derived.KernelRfl
namespace Go.Proofs.Qxb6605634a
/- THE CELL 'sum', in the pinned program and in every row, IS THE sha256 OF THE DUMP (.gsa) THAT Qxb6605634aProg.lean LOADS. Nothing in Lean hashes anything: it is a label: what it is worth is what the hold of that sum in a sandbox is worth. -/
noncomputable def Try.pinned : Pinned := { name := "qxb6605634a", sum := "733aed0a54004bc5e7a50b1c17c260e7eed74ec2c97fc54b2e311231cd4fa032", checked := Try.checked }
namespace Rows
def none {H : Type} : Left H := { results := [], args := [] }

/-- 'zzlaws_root_b1.FnRangeContainsMatchesPrecedenceModel': WHATEVER THE INPUT: true; the input reads as it did. -/
def fnRangeContainsMatchesPrecedenceModelSpec : ChangeSpec := { name := "fnRangeContainsMatchesPrecedenceModel", fn := fun _ => fun
  | [d1, d2] => { results := [.lit (.bool true)], args := [d1, d2] }
  | _ => none }
def fnRangeContainsMatchesPrecedenceModelRow : OpenClaim := { program := "qxb6605634a", sum := "733aed0a54004bc5e7a50b1c17c260e7eed74ec2c97fc54b2e311231cd4fa032", func := "example.com/versum/versum/zzlaws_root_b1.FnRangeContainsMatchesPrecedenceModel", spec := "fnRangeContainsMatchesPrecedenceModel", inPlace := ["internal/bytealg.IndexByteString", "internal/bytealg.IndexString", "internal/bytealg.abigen_runtime_cmpstring"], named := ["internal/bytealg.MaxLen"], apart := false }
def FnRangeContainsMatchesPrecedenceModelSaid : Prop := fnRangeContainsMatchesPrecedenceModelRow.holds Try.pinned (OpenSpec.ofChange fnRangeContainsMatchesPrecedenceModelSpec)

/-- ITS FALSE NEIGHBOUR: 'it returns false'. Refute it at one input. -/
def fnRangeContainsMatchesPrecedenceModelWrong : ChangeSpec := { name := "fnRangeContainsMatchesPrecedenceModel", fn := fun _ => fun
  | [d1, d2] => { results := [.lit (.bool false)], args := [d1, d2] }
  | _ => none }
def FnRangeContainsMatchesPrecedenceModelWrongFalsely : Prop := fnRangeContainsMatchesPrecedenceModelRow.holds Try.pinned (OpenSpec.ofChange fnRangeContainsMatchesPrecedenceModelWrong)

/-- 'zzlaws_root_b1.FnExactRangeContainsJustItsPrecedence': WHATEVER THE INPUT: true; the input reads as it did. -/
def fnExactRangeContainsJustItsPrecedenceSpec : ChangeSpec := { name := "fnExactRangeContainsJustItsPrecedence", fn := fun _ => fun
  | [d1, d2] => { results := [.lit (.bool true)], args := [d1, d2] }
  | _ => none }
def fnExactRangeContainsJustItsPrecedenceRow : OpenClaim := { program := "qxb6605634a", sum := "733aed0a54004bc5e7a50b1c17c260e7eed74ec2c97fc54b2e311231cd4fa032", func := "example.com/versum/versum/zzlaws_root_b1.FnExactRangeContainsJustItsPrecedence", spec := "fnExactRangeContainsJustItsPrecedence", inPlace := ["internal/bytealg.IndexByteString", "internal/bytealg.IndexString", "internal/bytealg.abigen_runtime_cmpstring"], named := ["internal/bytealg.MaxLen"], apart := false }
def FnExactRangeContainsJustItsPrecedenceSaid : Prop := fnExactRangeContainsJustItsPrecedenceRow.holds Try.pinned (OpenSpec.ofChange fnExactRangeContainsJustItsPrecedenceSpec)

/-- ITS FALSE NEIGHBOUR: 'it returns false'. Refute it at one input. -/
def fnExactRangeContainsJustItsPrecedenceWrong : ChangeSpec := { name := "fnExactRangeContainsJustItsPrecedence", fn := fun _ => fun
  | [d1, d2] => { results := [.lit (.bool false)], args := [d1, d2] }
  | _ => none }
def FnExactRangeContainsJustItsPrecedenceWrongFalsely : Prop := fnExactRangeContainsJustItsPrecedenceRow.holds Try.pinned (OpenSpec.ofChange fnExactRangeContainsJustItsPrecedenceWrong)

/-- 'zzlaws_root_b1.FnPermuteMovesEachVersionToItsEntry': WHATEVER THE INPUT: true; the input reads as it did. -/
def fnPermuteMovesEachVersionToItsEntrySpec : ChangeSpec := { name := "fnPermuteMovesEachVersionToItsEntry", fn := fun _ => fun
  | [d1, d2] => { results := [.lit (.bool true)], args := [d1, d2] }
  | _ => none }
def fnPermuteMovesEachVersionToItsEntryRow : OpenClaim := { program := "qxb6605634a", sum := "733aed0a54004bc5e7a50b1c17c260e7eed74ec2c97fc54b2e311231cd4fa032", func := "example.com/versum/versum/zzlaws_root_b1.FnPermuteMovesEachVersionToItsEntry", spec := "fnPermuteMovesEachVersionToItsEntry", apart := false }
def FnPermuteMovesEachVersionToItsEntrySaid : Prop := fnPermuteMovesEachVersionToItsEntryRow.holds Try.pinned (OpenSpec.ofChange fnPermuteMovesEachVersionToItsEntrySpec)

/-- ITS FALSE NEIGHBOUR: 'it returns false'. Refute it at one input. -/
def fnPermuteMovesEachVersionToItsEntryWrong : ChangeSpec := { name := "fnPermuteMovesEachVersionToItsEntry", fn := fun _ => fun
  | [d1, d2] => { results := [.lit (.bool false)], args := [d1, d2] }
  | _ => none }
def FnPermuteMovesEachVersionToItsEntryWrongFalsely : Prop := fnPermuteMovesEachVersionToItsEntryRow.holds Try.pinned (OpenSpec.ofChange fnPermuteMovesEachVersionToItsEntryWrong)

/-- 'zzlaws_root_b1.FnPermuteThenInverseRestores': WHATEVER THE INPUT: true; the input reads as it did. -/
def fnPermuteThenInverseRestoresSpec : ChangeSpec := { name := "fnPermuteThenInverseRestores", fn := fun _ => fun
  | [d1, d2] => { results := [.lit (.bool true)], args := [d1, d2] }
  | _ => none }
def fnPermuteThenInverseRestoresRow : OpenClaim := { program := "qxb6605634a", sum := "733aed0a54004bc5e7a50b1c17c260e7eed74ec2c97fc54b2e311231cd4fa032", func := "example.com/versum/versum/zzlaws_root_b1.FnPermuteThenInverseRestores", spec := "fnPermuteThenInverseRestores", apart := false }
def FnPermuteThenInverseRestoresSaid : Prop := fnPermuteThenInverseRestoresRow.holds Try.pinned (OpenSpec.ofChange fnPermuteThenInverseRestoresSpec)

/-- ITS FALSE NEIGHBOUR: 'it returns false'. Refute it at one input. -/
def fnPermuteThenInverseRestoresWrong : ChangeSpec := { name := "fnPermuteThenInverseRestores", fn := fun _ => fun
  | [d1, d2] => { results := [.lit (.bool false)], args := [d1, d2] }
  | _ => none }
def FnPermuteThenInverseRestoresWrongFalsely : Prop := fnPermuteThenInverseRestoresRow.holds Try.pinned (OpenSpec.ofChange fnPermuteThenInverseRestoresWrong)

/-- 'zzlaws_root_b1.FnVersionStringSplitsBackToNumbersAndPre': WHATEVER THE INPUT: true; the input reads as it did. -/
def fnVersionStringSplitsBackToNumbersAndPreSpec : ChangeSpec := { name := "fnVersionStringSplitsBackToNumbersAndPre", fn := fun _ => fun
  | [d1, d2] => { results := [.lit (.bool true)], args := [d1, d2] }
  | _ => none }
def fnVersionStringSplitsBackToNumbersAndPreRow : OpenClaim := { program := "qxb6605634a", sum := "733aed0a54004bc5e7a50b1c17c260e7eed74ec2c97fc54b2e311231cd4fa032", func := "example.com/versum/versum/zzlaws_root_b1.FnVersionStringSplitsBackToNumbersAndPre", spec := "fnVersionStringSplitsBackToNumbersAndPre", apart := false }
def FnVersionStringSplitsBackToNumbersAndPreSaid : Prop := fnVersionStringSplitsBackToNumbersAndPreRow.holds Try.pinned (OpenSpec.ofChange fnVersionStringSplitsBackToNumbersAndPreSpec)

/-- ITS FALSE NEIGHBOUR: 'it returns false'. Refute it at one input. -/
def fnVersionStringSplitsBackToNumbersAndPreWrong : ChangeSpec := { name := "fnVersionStringSplitsBackToNumbersAndPre", fn := fun _ => fun
  | [d1, d2] => { results := [.lit (.bool false)], args := [d1, d2] }
  | _ => none }
def FnVersionStringSplitsBackToNumbersAndPreWrongFalsely : Prop := fnVersionStringSplitsBackToNumbersAndPreRow.holds Try.pinned (OpenSpec.ofChange fnVersionStringSplitsBackToNumbersAndPreWrong)

/-- 'zzlaws_root_b1.FnVersionStringOfSteppedIsNextNumber': WHATEVER THE INPUT: true; the input reads as it did. -/
def fnVersionStringOfSteppedIsNextNumberSpec : ChangeSpec := { name := "fnVersionStringOfSteppedIsNextNumber", fn := fun _ => fun
  | [d1, d2, d3] => { results := [.lit (.bool true)], args := [d1, d2, d3] }
  | _ => none }
def fnVersionStringOfSteppedIsNextNumberRow : OpenClaim := { program := "qxb6605634a", sum := "733aed0a54004bc5e7a50b1c17c260e7eed74ec2c97fc54b2e311231cd4fa032", func := "example.com/versum/versum/zzlaws_root_b1.FnVersionStringOfSteppedIsNextNumber", spec := "fnVersionStringOfSteppedIsNextNumber", inPlace := ["internal/bytealg.IndexByteString", "internal/bytealg.IndexString"], named := ["internal/bytealg.MaxLen"], apart := false }
def FnVersionStringOfSteppedIsNextNumberSaid : Prop := fnVersionStringOfSteppedIsNextNumberRow.holds Try.pinned (OpenSpec.ofChange fnVersionStringOfSteppedIsNextNumberSpec)

/-- ITS FALSE NEIGHBOUR: 'it returns false'. Refute it at one input. -/
def fnVersionStringOfSteppedIsNextNumberWrong : ChangeSpec := { name := "fnVersionStringOfSteppedIsNextNumber", fn := fun _ => fun
  | [d1, d2, d3] => { results := [.lit (.bool false)], args := [d1, d2, d3] }
  | _ => none }
def FnVersionStringOfSteppedIsNextNumberWrongFalsely : Prop := fnVersionStringOfSteppedIsNextNumberRow.holds Try.pinned (OpenSpec.ofChange fnVersionStringOfSteppedIsNextNumberWrong)

/-- 'zzlaws_root_b1.FnApplyComparisonKeepsSetAndAddsDocBounds': WHATEVER THE INPUT: true; the input reads as it did. -/
def fnApplyComparisonKeepsSetAndAddsDocBoundsSpec : ChangeSpec := { name := "fnApplyComparisonKeepsSetAndAddsDocBounds", fn := fun _ => fun
  | [d1, d2, d3, d4, d5, d6] => { results := [.lit (.bool true)], args := [d1, d2, d3, d4, d5, d6] }
  | _ => none }
def fnApplyComparisonKeepsSetAndAddsDocBoundsRow : OpenClaim := { program := "qxb6605634a", sum := "733aed0a54004bc5e7a50b1c17c260e7eed74ec2c97fc54b2e311231cd4fa032", func := "example.com/versum/versum/zzlaws_root_b1.FnApplyComparisonKeepsSetAndAddsDocBounds", spec := "fnApplyComparisonKeepsSetAndAddsDocBounds", inPlace := ["internal/bytealg.IndexByteString", "internal/bytealg.IndexString"], unfollowed := true, recurses := true, named := ["internal/bytealg.MaxLen"], apart := false }
def FnApplyComparisonKeepsSetAndAddsDocBoundsSaid : Prop := fnApplyComparisonKeepsSetAndAddsDocBoundsRow.holds Try.pinned (OpenSpec.ofChange fnApplyComparisonKeepsSetAndAddsDocBoundsSpec)

/-- ITS FALSE NEIGHBOUR: 'it returns false'. Refute it at one input. -/
def fnApplyComparisonKeepsSetAndAddsDocBoundsWrong : ChangeSpec := { name := "fnApplyComparisonKeepsSetAndAddsDocBounds", fn := fun _ => fun
  | [d1, d2, d3, d4, d5, d6] => { results := [.lit (.bool false)], args := [d1, d2, d3, d4, d5, d6] }
  | _ => none }
def FnApplyComparisonKeepsSetAndAddsDocBoundsWrongFalsely : Prop := fnApplyComparisonKeepsSetAndAddsDocBoundsRow.holds Try.pinned (OpenSpec.ofChange fnApplyComparisonKeepsSetAndAddsDocBoundsWrong)

/-- 'zzlaws_root_b1.FnApplyComparisonMatchesRangeDoc': WHATEVER THE INPUT: true; the input reads as it did. -/
def fnApplyComparisonMatchesRangeDocSpec : ChangeSpec := { name := "fnApplyComparisonMatchesRangeDoc", fn := fun _ => fun
  | [d1, d2, d3, d4, d5, d6, d7] => { results := [.lit (.bool true)], args := [d1, d2, d3, d4, d5, d6, d7] }
  | _ => none }
def fnApplyComparisonMatchesRangeDocRow : OpenClaim := { program := "qxb6605634a", sum := "733aed0a54004bc5e7a50b1c17c260e7eed74ec2c97fc54b2e311231cd4fa032", func := "example.com/versum/versum/zzlaws_root_b1.FnApplyComparisonMatchesRangeDoc", spec := "fnApplyComparisonMatchesRangeDoc", inPlace := ["internal/bytealg.IndexByteString", "internal/bytealg.IndexString", "internal/bytealg.abigen_runtime_cmpstring"], unfollowed := true, recurses := true, named := ["internal/bytealg.MaxLen"], apart := false }
def FnApplyComparisonMatchesRangeDocSaid : Prop := fnApplyComparisonMatchesRangeDocRow.holds Try.pinned (OpenSpec.ofChange fnApplyComparisonMatchesRangeDocSpec)

/-- ITS FALSE NEIGHBOUR: 'it returns false'. Refute it at one input. -/
def fnApplyComparisonMatchesRangeDocWrong : ChangeSpec := { name := "fnApplyComparisonMatchesRangeDoc", fn := fun _ => fun
  | [d1, d2, d3, d4, d5, d6, d7] => { results := [.lit (.bool false)], args := [d1, d2, d3, d4, d5, d6, d7] }
  | _ => none }
def FnApplyComparisonMatchesRangeDocWrongFalsely : Prop := fnApplyComparisonMatchesRangeDocRow.holds Try.pinned (OpenSpec.ofChange fnApplyComparisonMatchesRangeDocWrong)

end Rows
end Go.Proofs.Qxb6605634a
