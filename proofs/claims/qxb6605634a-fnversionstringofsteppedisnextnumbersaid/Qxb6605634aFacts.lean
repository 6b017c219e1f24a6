/-
  The closed facts of the row, each a theorem of its own: in one declaration the kernel outgrows its lid.
-/
import Derived.Test.Qxb6605634aRows
import Derived.WalkKit
import Derived.ProofKit
import Derived.JoinedOf
namespace Go.Proofs.Qxb6605634a.Facts
open Go.RowKit

theorem both {a b : Bool} (ha : a = true) (hb : b = true) : (a && b) = true := by rw [ha, hb]; rfl
theorem k0 : (Rows.fnVersionStringOfSteppedIsNextNumberRow.wf (OpenSpec.ofChange Rows.fnVersionStringOfSteppedIsNextNumberSpec)) = true := by kernel_rfl
theorem k1 : (laidOutB Try.prog) = true := by kernel_rfl
theorem k2 : (mapsRowed Try.prog) = true := by kernel_rfl
theorem k3 : (Try.f8.params.all (Try.prog.readableRec ·)) = true := by kernel_rfl
theorem k4 : (namedTie Try.prog Rows.fnVersionStringOfSteppedIsNextNumberRow.named Rows.fnVersionStringOfSteppedIsNextNumberSpec.vars) = true := by kernel_rfl
theorem k5 : ((Rows.fnVersionStringOfSteppedIsNextNumberRow.stops == [])) = true := by kernel_rfl
theorem k6 : ((Try.prog.stops == [])) = true := by kernel_rfl
theorem k7 : ((Rows.fnVersionStringOfSteppedIsNextNumberRow.knobs == [])) = true := by kernel_rfl
theorem k8 : ((Try.prog.stopKnobs == [])) = true := by kernel_rfl
theorem k9 : ((Rows.fnVersionStringOfSteppedIsNextNumberRow.inPlace == Try.prog.inPlace 8)) = true := by kernel_rfl
theorem k10 : ((Rows.fnVersionStringOfSteppedIsNextNumberRow.unfollowed == Try.prog.unfollowed 8)) = true := by kernel_rfl
theorem k11 : ((Rows.fnVersionStringOfSteppedIsNextNumberRow.recurses == Try.prog.recurses 8)) = true := by kernel_rfl
theorem k12 : ((Rows.fnVersionStringOfSteppedIsNextNumberRow.named == Try.prog.varsNamed 8)) = true := by kernel_rfl
theorem k13 : ((Rows.fnVersionStringOfSteppedIsNextNumberRow.maps == (Try.f8.params.toList ++ Rows.fnVersionStringOfSteppedIsNextNumberSpec.plain.varTypes Try.prog).any (Try.prog.mapsRec ·))) = true := by kernel_rfl
theorem k14 : ((Rows.fnVersionStringOfSteppedIsNextNumberRow.ifaces == (Try.f8.params.toList ++ Rows.fnVersionStringOfSteppedIsNextNumberSpec.plain.varTypes Try.prog).any (Try.prog.ifacesRec ·))) = true := by kernel_rfl
theorem k15 : ((Rows.fnVersionStringOfSteppedIsNextNumberRow.mapsOut == Try.prog.mapsAmong Try.f8.resultTypes.toList)) = true := by kernel_rfl
theorem k16 : ((Rows.fnVersionStringOfSteppedIsNextNumberRow.loops == (Try.f8.params.toList ++ Rows.fnVersionStringOfSteppedIsNextNumberSpec.plain.varTypes Try.prog).any (Try.prog.loopsFrom ·))) = true := by kernel_rfl
theorem k17 : ((Rows.fnVersionStringOfSteppedIsNextNumberRow.wideKeys == (Try.f8.params.toList ++ Rows.fnVersionStringOfSteppedIsNextNumberSpec.plain.varTypes Try.prog ++ Try.f8.resultTypes.toList).any (Try.prog.wideKeysFrom ·))) = true := by kernel_rfl
theorem k18 : (Rows.fnVersionStringOfSteppedIsNextNumberSpec.vars.all (Try.prog.varReadable ·)) = true := by kernel_rfl
theorem k19 : (Try.f8.resultTypes.all (fun t => Try.prog.readableRec t && decide (t < Try.prog.types.size))) = true := by kernel_rfl
theorem k20 : ((Rows.fnVersionStringOfSteppedIsNextNumberRow.ifacesOut == Try.f8.resultTypes.toList.any (Try.prog.ifacesRec ·))) = true := by kernel_rfl
theorem k21 : ((Rows.fnVersionStringOfSteppedIsNextNumberRow.loopsOut == Try.f8.resultTypes.toList.any (Try.prog.loopsFrom ·))) = true := by kernel_rfl
theorem k22 : ((Rows.fnVersionStringOfSteppedIsNextNumberRow.plainKeys == Try.prog.plainKeys)) = true := by kernel_rfl
theorem k23 : (Rows.fnVersionStringOfSteppedIsNextNumberRow.shortTexts.isNone) = true := by kernel_rfl
theorem k24 : (Try.prog.stopsHeard) = true := by kernel_rfl
theorem k25 : (Try.prog.mayEnter) = true := by kernel_rfl
theorem k26 : ((Rows.fnVersionStringOfSteppedIsNextNumberRow.lifted == Try.prog.liftsFinal)) = true := by kernel_rfl
theorem k27 : ((Try.prog.make == some Rows.fnVersionStringOfSteppedIsNextNumberRow.make)) = true := by kernel_rfl
theorem k28 : ((Rows.fnVersionStringOfSteppedIsNextNumberRow.kinds == (if Rows.fnVersionStringOfSteppedIsNextNumberRow.domain.isEmpty then [] else Try.f8.params.toList.map fun t => match Try.prog.underlying t with | some (.int k) => some k | _ => none))) = true := by kernel_rfl
theorem k29 : ((Rows.fnVersionStringOfSteppedIsNextNumberRow.pinned == Rows.fnVersionStringOfSteppedIsNextNumberRow.pinnedBy)) = true := by kernel_rfl
theorem k30 : ((Rows.fnVersionStringOfSteppedIsNextNumberRow.veiled == (Try.f8.params.toList ++ Rows.fnVersionStringOfSteppedIsNextNumberSpec.plain.varTypes Try.prog ++ Try.f8.resultTypes.toList).any (Try.prog.veiledRec ·))) = true := by kernel_rfl
theorem k31 : (Rows.fnVersionStringOfSteppedIsNextNumberRow.veiledFits Try.prog Try.f8.params.toList (Try.f8.params.toList ++ Rows.fnVersionStringOfSteppedIsNextNumberSpec.plain.varTypes Try.prog ++ Try.f8.resultTypes.toList)) = true := by kernel_rfl

set_option maxRecDepth 100000 in
theorem closed : joinedFacts Try.prog 8 Try.f8 Rows.fnVersionStringOfSteppedIsNextNumberSpec Rows.fnVersionStringOfSteppedIsNextNumberRow = true :=
  both (both (both (both (both (both (both (both (both (both (both (both (both (both (both (both (both (both (both (both (both (both (both (both (both (both (both (both (both (both (both k0 k1) k2) k3) k4) k5) k6) k7) k8) k9) k10) k11) k12) k13) k14) k15) k16) k17) k18) k19) k20) k21) k22) k23) k24) k25) k26) k27) k28) k29) k30) k31
end Go.Proofs.Qxb6605634a.Facts
