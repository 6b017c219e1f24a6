/-
  No cell of these rows narrows 'for every input' (looked for: loops, veiled, ifaces, maps, wideKeys, modest, calm, conditions, laid).
  DERIVED. THE GIVEN ROWS OF THIS SEAT. 3 by the template 'for every input the law returns true; each argument reads behind the call as it read before'; 0 by the template 'total and deterministic' (their statements: Qxb6600197aTotals.lean).
  GIVEN WITH THE SEED: the statements are not yours to turn. If you find one false, say at which input.
  Laid BY PROGRAM, IN A SANDBOX (cutbox-rows.mjs): the forced cells as the released guide's own fill.sh prints them over the translation d5f2ab429b5ad06a… (all of the seat's roots in one cut). By AI agents, Wed Nov 11 2026. No macro, syntax, notation, axiom, sorry.
-/
import Derived.Test.Qxb6600197aChecked
import GoSem.Claim
import GoSem.ClaimJoined
import GoSem.ClaimMapViews
import Derived.JoinedTies
import Derived.KernelRfl
namespace Go.Proofs.Qxb6600197a
/- THE CELL 'sum', in the pinned program and in every row, IS THE sha256 OF THE DUMP (.gsa) THAT Qxb6600197aProg.lean LOADS. Nothing in Lean hashes anything: it is a label: what it is worth is what the hold of that sum in a sandbox is worth. -/
noncomputable def Try.pinned : Pinned := { name := "qxb6600197a", sum := "d5f2ab429b5ad06a5ae9cf41b45c18d38e06143dd007e6822b14c0eea83beb8b", checked := Try.checked }
namespace Rows
def none {H : Type} : Left H := { results := [], args := [] }

/-- 'zzlaws_webcheck_b1.FnIpv4NumberMatchesModel': WHATEVER THE INPUT: true; the input reads as it did. -/
def fnIpv4NumberMatchesModelSpec : ChangeSpec := { name := "fnIpv4NumberMatchesModel", fn := fun _ => fun
  | [d] => { results := [.lit (.bool true)], args := [d] }
  | _ => none }
def fnIpv4NumberMatchesModelRow : OpenClaim := { program := "qxb6600197a", sum := "d5f2ab429b5ad06a5ae9cf41b45c18d38e06143dd007e6822b14c0eea83beb8b", func := "example.com/hostlore/hostlore/zzlaws_webcheck_b1.FnIpv4NumberMatchesModel", spec := "fnIpv4NumberMatchesModel", inPlace := ["internal/bytealg.IndexByteString"], apart := false }
def FnIpv4NumberMatchesModelSaid : Prop := fnIpv4NumberMatchesModelRow.holds Try.pinned (OpenSpec.ofChange fnIpv4NumberMatchesModelSpec)

/-- ITS FALSE NEIGHBOUR: 'it returns false'. Refute it at one input. -/
def fnIpv4NumberMatchesModelWrong : ChangeSpec := { name := "fnIpv4NumberMatchesModel", fn := fun _ => fun
  | [d] => { results := [.lit (.bool false)], args := [d] }
  | _ => none }
def FnIpv4NumberMatchesModelWrongFalsely : Prop := fnIpv4NumberMatchesModelRow.holds Try.pinned (OpenSpec.ofChange fnIpv4NumberMatchesModelWrong)

/-- 'zzlaws_webcheck_b1.FnIpv4NumberReadsItsSpellings': WHATEVER THE INPUT: true; the input reads as it did. -/
def fnIpv4NumberReadsItsSpellingsSpec : ChangeSpec := { name := "fnIpv4NumberReadsItsSpellings", fn := fun _ => fun
  | [d] => { results := [.lit (.bool true)], args := [d] }
  | _ => none }
def fnIpv4NumberReadsItsSpellingsRow : OpenClaim := { program := "qxb6600197a", sum := "d5f2ab429b5ad06a5ae9cf41b45c18d38e06143dd007e6822b14c0eea83beb8b", func := "example.com/hostlore/hostlore/zzlaws_webcheck_b1.FnIpv4NumberReadsItsSpellings", spec := "fnIpv4NumberReadsItsSpellings", inPlace := ["internal/bytealg.IndexByteString"], apart := false }
def FnIpv4NumberReadsItsSpellingsSaid : Prop := fnIpv4NumberReadsItsSpellingsRow.holds Try.pinned (OpenSpec.ofChange fnIpv4NumberReadsItsSpellingsSpec)

/-- ITS FALSE NEIGHBOUR: 'it returns false'. Refute it at one input. -/
def fnIpv4NumberReadsItsSpellingsWrong : ChangeSpec := { name := "fnIpv4NumberReadsItsSpellings", fn := fun _ => fun
  | [d] => { results := [.lit (.bool false)], args := [d] }
  | _ => none }
def FnIpv4NumberReadsItsSpellingsWrongFalsely : Prop := fnIpv4NumberReadsItsSpellingsRow.holds Try.pinned (OpenSpec.ofChange fnIpv4NumberReadsItsSpellingsWrong)

/-- 'zzlaws_webcheck_b1.FnIpv4NumberGrowsWithADigit': WHATEVER THE INPUT: true; the input reads as it did. -/
def fnIpv4NumberGrowsWithADigitSpec : ChangeSpec := { name := "fnIpv4NumberGrowsWithADigit", fn := fun _ => fun
  | [d1, d2] => { results := [.lit (.bool true)], args := [d1, d2] }
  | _ => none }
def fnIpv4NumberGrowsWithADigitRow : OpenClaim := { program := "qxb6600197a", sum := "d5f2ab429b5ad06a5ae9cf41b45c18d38e06143dd007e6822b14c0eea83beb8b", func := "example.com/hostlore/hostlore/zzlaws_webcheck_b1.FnIpv4NumberGrowsWithADigit", spec := "fnIpv4NumberGrowsWithADigit", inPlace := ["internal/bytealg.IndexByteString"], apart := false }
def FnIpv4NumberGrowsWithADigitSaid : Prop := fnIpv4NumberGrowsWithADigitRow.holds Try.pinned (OpenSpec.ofChange fnIpv4NumberGrowsWithADigitSpec)

/-- ITS FALSE NEIGHBOUR: 'it returns false'. Refute it at one input. -/
def fnIpv4NumberGrowsWithADigitWrong : ChangeSpec := { name := "fnIpv4NumberGrowsWithADigit", fn := fun _ => fun
  | [d1, d2] => { results := [.lit (.bool false)], args := [d1, d2] }
  | _ => none }
def FnIpv4NumberGrowsWithADigitWrongFalsely : Prop := fnIpv4NumberGrowsWithADigitRow.holds Try.pinned (OpenSpec.ofChange fnIpv4NumberGrowsWithADigitWrong)

end Rows
end Go.Proofs.Qxb6600197a
