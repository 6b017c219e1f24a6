/-
  No cell of these rows narrows 'for every input' (looked for: loops, veiled, ifaces, maps, wideKeys, modest, calm, conditions, laid).
  DERIVED. THE GIVEN ROWS OF THIS SEAT. 2 by the template 'for every input the law returns true; each argument reads behind the call as it read before'; 0 by the template 'total and deterministic' (their statements: Qxb6601281aTotals.lean).
  GIVEN WITH THE SEED: the statements are not yours to turn. If you find one false, say at which input.
  Laid BY PROGRAM, IN A SANDBOX (cutbox-rows.mjs): the forced cells as the released guide's own fill.sh prints them over the translation bca09c92e51e2ad2… (all of the seat's roots in one cut). By AI agents, Wed Nov 11 2026. No macro, syntax, notation, axiom, sorry.
-/
import Derived.Test.Qxb6601281aChecked
import GoSem.Claim
import GoSem.ClaimJoined
import GoSem.ClaimMapViews
import Derived.JoinedTies
import Derived.KernelRfl
namespace Go.Proofs.Qxb6601281a
/- THE CELL 'sum', in the pinned program and in every row, IS THE sha256 OF THE DUMP (.gsa) THAT Qxb6601281aProg.lean LOADS. Nothing in Lean hashes anything: it is a label: what it is worth is what the hold of that sum in a sandbox is worth. -/
noncomputable def Try.pinned : Pinned := { name := "qxb6601281a", sum := "bca09c92e51e2ad2887c1393c3fb3ff29526eb0000cbcaa65083028b184b4c16", checked := Try.checked }
namespace Rows
def none {H : Type} : Left H := { results := [], args := [] }

/-- 'zzlaws_input_b1.FnPieceStartsExactSpec': WHATEVER THE INPUT: true; the input reads as it did. -/
def fnPieceStartsExactSpecSpec : ChangeSpec := { name := "fnPieceStartsExactSpec", fn := fun _ => fun
  | [d1, d2, d3] => { results := [.lit (.bool true)], args := [d1, d2, d3] }
  | _ => none }
def fnPieceStartsExactSpecRow : OpenClaim := { program := "qxb6601281a", sum := "bca09c92e51e2ad2887c1393c3fb3ff29526eb0000cbcaa65083028b184b4c16", func := "example.com/tuoguan/tuoguan/zzlaws_input_b1.FnPieceStartsExactSpec", spec := "fnPieceStartsExactSpec", inPlace := ["internal/bytealg.IndexByte"], apart := false }
def FnPieceStartsExactSpecSaid : Prop := fnPieceStartsExactSpecRow.holds Try.pinned (OpenSpec.ofChange fnPieceStartsExactSpecSpec)

/-- ITS FALSE NEIGHBOUR: 'it returns false'. Refute it at one input. -/
def fnPieceStartsExactSpecWrong : ChangeSpec := { name := "fnPieceStartsExactSpec", fn := fun _ => fun
  | [d1, d2, d3] => { results := [.lit (.bool false)], args := [d1, d2, d3] }
  | _ => none }
def FnPieceStartsExactSpecWrongFalsely : Prop := fnPieceStartsExactSpecRow.holds Try.pinned (OpenSpec.ofChange fnPieceStartsExactSpecWrong)

/-- 'zzlaws_input_b1.FnPieceStartsMonotone': WHATEVER THE INPUT: true; the input reads as it did. -/
def fnPieceStartsMonotoneSpec : ChangeSpec := { name := "fnPieceStartsMonotone", fn := fun _ => fun
  | [d1, d2, d3, d4, d5] => { results := [.lit (.bool true)], args := [d1, d2, d3, d4, d5] }
  | _ => none }
def fnPieceStartsMonotoneRow : OpenClaim := { program := "qxb6601281a", sum := "bca09c92e51e2ad2887c1393c3fb3ff29526eb0000cbcaa65083028b184b4c16", func := "example.com/tuoguan/tuoguan/zzlaws_input_b1.FnPieceStartsMonotone", spec := "fnPieceStartsMonotone", inPlace := ["internal/bytealg.IndexByte"], apart := false }
def FnPieceStartsMonotoneSaid : Prop := fnPieceStartsMonotoneRow.holds Try.pinned (OpenSpec.ofChange fnPieceStartsMonotoneSpec)

/-- ITS FALSE NEIGHBOUR: 'it returns false'. Refute it at one input. -/
def fnPieceStartsMonotoneWrong : ChangeSpec := { name := "fnPieceStartsMonotone", fn := fun _ => fun
  | [d1, d2, d3, d4, d5] => { results := [.lit (.bool false)], args := [d1, d2, d3, d4, d5] }
  | _ => none }
def FnPieceStartsMonotoneWrongFalsely : Prop := fnPieceStartsMonotoneRow.holds Try.pinned (OpenSpec.ofChange fnPieceStartsMonotoneWrong)

end Rows
end Go.Proofs.Qxb6601281a
