/-
  'Rows.FnVersionStringOfSteppedIsNextNumberSaid', proved: the frame is the guide's template at this function's number and types; the walk lies in Qxb6605634aTop.
-/
import Derived.Test.Qxb6605634aRows
import Derived.WalkKit
import Derived.ProofKit
import Derived.OpenShut
import Derived.ShutString
import Derived.Laws.IdiomArrays
import Derived.Test.Qxb6605634aFacts
import Derived.Test.Qxb6605634aTop
namespace Go.Proofs.Qxb6605634a.fnVersionStringOfSteppedIsNextNumber
open Go.ChangeShapes Go.WideShapes Go.ChangeAt Go.RowKit
open Go.ChangeMaps (open_string shut_string)
open Go.Proofs.Qxb6605634a Go.Proofs.Qxb6605634a.Pl
set_option linter.unusedVariables false

theorem own : ownKnob Try.prog.godebug = Option.none := by kernel_rfl
theorem laidOut : laidOutB Try.prog = true := by kernel_rfl
theorem cells23 : Try.prog.cellsOf 23 = 3 := by kernel_rfl
theorem cells9 : Try.prog.cellsOf 9 = 1 := by kernel_rfl

theorem array3 {cs : Array Value} (h : cs.size = 3) : ∃ c0 c1 c2, cs = #[c0, c1, c2] := by
  match cs, h with
  | ⟨[c0, c1, c2]⟩, _ => exact ⟨c0, c1, c2, rfl⟩

theorem okWide_arr3 {P : Program} {w : World} {r : Reach} {b0 n : Nat} {t e : TypeId} {v : Value} (ht : P.underlying t = some (.array n e)) (h : Value.okWide P w r b0 t v) : ∃ cs, v = .agg cs ∧ cs.size = P.cellsOf t := by
  simp only [Value.okWide, ht] at h
  obtain ⟨cs, h1, h2, _⟩ := h
  exact ⟨cs, h1, h2⟩

section
variable {H : Type} {enc : TypeId × Value → H} {w : World} {base : Nat} {spare : Nat → Bool} {held : Bool}

set_option maxRecDepth 100000 in
/-- an array of three texts, opened -/
theorem three {b0 : Nat} {v : Value} {d : DataW H} {ps : List MemPlace} (hv : Value.okWide Try.prog w .any b0 23 v) (h : DataW.Trod enc Try.prog w base spare held 23 v d ps) :
    ∃ x y z : ByteArray, v = Arr x y z := by
  obtain ⟨cs, hcs, hsz0⟩ := okWide_arr3 Try.underlying23 hv
  clear hv
  subst hcs
  have hsz : cs.size = 3 := hsz0.trans cells23
  obtain ⟨c0, c1, c2, rfl⟩ := array3 hsz
  obtain ⟨fuel, hf⟩ := h
  obtain ⟨y0, y1, y2, n, _, h0, h1, h2⟩ := trod_array3 Try.underlying23 cells9 hf
  obtain ⟨x, e0, _, _⟩ := DataW.trod_string Try.underlying9 h0
  obtain ⟨y, e1, _, _⟩ := DataW.trod_string Try.underlying9 h1
  obtain ⟨z, e2, _, _⟩ := DataW.trod_string Try.underlying9 h2
  simp at e0 e1 e2
  subst e0 e1 e2
  exact ⟨x, y, z, rfl⟩
end

set_option maxRecDepth 100000 in
theorem lifted (os : Os) (started : os.Started) (H : Type) (enc : TypeId × Value → H) :
    ReturnsInHanded {} Try.checked os 8 .any (Rows.fnVersionStringOfSteppedIsNextNumberSpec.pre6 enc Try.prog Try.f8 Rows.fnVersionStringOfSteppedIsNextNumberRow.domain false) (Rows.fnVersionStringOfSteppedIsNextNumberSpec.post enc Try.prog Try.f8 false true false false) := by
  refine returnsInHanded_of_change (C := Try.checked) own started (by kernel_rfl) Try.func8
    (ChangeSpec.witness6 (enc := enc) (C := Try.checked) false ⟨#[], #[.agg #[.string ⟨#[]⟩, .string ⟨#[]⟩, .string ⟨#[]⟩], .string ⟨#[]⟩, .int .i64 0], []⟩ 8 (by kernel_rfl) (by kernel_rfl) (by kernel_rfl) (by kernel_rfl)) ?_
  intro W base args ds gs before hval0 hW hcnd _
  have hval : ∀ (j : Nat) t v, Try.f8.params[j]? = some t → args[j]? = some v → Value.okWide Try.prog W .any base t v := hval0
  have hW' := hW
  obtain ⟨p, q, hA0, hV, rfl, hfz, hnd⟩ := hW
  have hA : DataW.TrodAll enc Try.prog W 0 (fun _ => true) true Try.f8.params.toList args.toList ds p := hA0
  rw [Try.params8] at hA hval
  obtain ⟨v0, vs0, d0, ds0, p0, q0, hargs, rfl, rfl, h0, r0⟩ := trodAll_cons hA
  obtain ⟨v1, vs1, d1, ds1, p1, q1, rfl, rfl, rfl, h1, r1⟩ := trodAll_cons r0
  obtain ⟨v2, vs2, d2, ds2, p2, q2, rfl, rfl, rfl, h2, r2⟩ := trodAll_cons r1
  obtain ⟨rfl, rfl, rfl⟩ := trodAll_nil r2
  obtain rfl : args = #[v0, v1, v2] := by cases args; simp_all
  obtain ⟨rfl, rfl⟩ := trodVars_none hV
  have k0 := h0
  have lt0 : ∀ x ∈ p0, x.block < W.heap.size := by obtain ⟨m, hm⟩ := k0; exact DataW.trod_lt m _ _ _ hm
  obtain ⟨x, y, z, rfl⟩ := three (hval 0 23 v0 rfl rfl) h0
  obtain ⟨s, rfl, rfl, rfl, ws⟩ := open_string Try.underlying9 (hval 1 9 v1 rfl rfl) h1
  obtain ⟨i, rfl, rfl, rfl, wi⟩ := open_int Try.underlying3 (hval 2 3 v2 rfl rfl) h2
  clear hA0 hval0
  refine (Tp.walk x y z s i W).mono fun e W' ⟨he, bel⟩ => ?_
  subst he
  exact ⟨_, rfl, _, _, _, [], _, [], hW', trodAll_mk1 (shut_bool Try.underlying4 _), (trodAll_cons_mk (Below.trod laidOut (by kernel_rfl) (of_decide_eq_true (by kernel_rfl)) k0 bel lt0) (trodAll_cons_mk (shut_string Try.underlying9 ws) (trodAll_cons_mk (shut_int Try.underlying3 wi) trodAll_mk0))), rfl, bel.frame _, fun h => by cases h⟩

theorem named : Try.pinned.checked.prog.funcNamed Rows.fnVersionStringOfSteppedIsNextNumberRow.func = some 8 := by kernel_rfl
theorem inst : Try.f8.isInstance Try.pinned.checked.prog Rows.fnVersionStringOfSteppedIsNextNumberRow.origin Rows.fnVersionStringOfSteppedIsNextNumberRow.targs := of_decide_eq_true (by kernel_rfl)
theorem wrap : Try.f8.isWrapper Try.pinned.checked.prog Rows.fnVersionStringOfSteppedIsNextNumberRow.wrapper Rows.fnVersionStringOfSteppedIsNextNumberRow.mainSum := by
  unfold Func.isWrapper; first | (rw [if_pos (by decide +kernel)]; kernel_rfl) | (rw [if_neg (by decide +kernel)]; exact ⟨rfl, rfl⟩)

theorem over : Rows.fnVersionStringOfSteppedIsNextNumberRow.holds Try.pinned (OpenSpec.ofChange Rows.fnVersionStringOfSteppedIsNextNumberSpec) :=
  OpenClaim.holds_of_wide 8 Try.f8 rfl rfl rfl rfl rfl rfl rfl ⟨rfl, rfl, rfl, rfl, rfl⟩ rfl rfl rfl rfl rfl named Try.func8 Facts.closed
    inst wrap
    (fun os started H enc _ => lifted os started H enc)

/-- The statement. -/
theorem proved : Rows.FnVersionStringOfSteppedIsNextNumberSaid := over
#print axioms proved
end Go.Proofs.Qxb6605634a.fnVersionStringOfSteppedIsNextNumber
