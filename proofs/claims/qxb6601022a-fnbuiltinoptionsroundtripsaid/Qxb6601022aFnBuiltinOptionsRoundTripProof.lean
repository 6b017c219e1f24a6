/-
  'Rows.FnBuiltinOptionsRoundTripSaid', proved: the frame is the guide's template at this function's number and types; the walk lies in Qxb6601022aTop.
-/
import Derived.Test.Qxb6601022aRows
import Derived.WalkKit
import Derived.ProofKit
import Derived.OpenShut
import Derived.ShutString
import Derived.Deep.Strs
import Derived.Test.Qxb6601022aTop
namespace Go.Proofs.Qxb6601022a.fnBuiltinOptionsRoundTrip
open Go.ChangeShapes Go.WideShapes Go.ChangeAt Go.RowKit
open Go.ChangeMaps (open_string shut_string)
open Go.Proofs.Qxb6601022a Go.Proofs.Qxb6601022a.Pl
set_option linter.unusedVariables false

theorem own : ownKnob Try.prog.godebug = Option.none := by kernel_rfl
theorem laidOut : laidOutB Try.prog = true := by kernel_rfl
theorem cells5 : Try.prog.cellsOf 5 = 1 := by kernel_rfl
theorem cells4 : Try.prog.cellsOf 4 = 1 := by kernel_rfl
theorem cells9 : Try.prog.cellsOf 9 = 1 := by kernel_rfl
theorem cells37 : Try.prog.cellsOf 37 = 4 := by kernel_rfl

section
variable {H : Type} {enc : TypeId × Value → H} {w : World} {base : Nat} {spare : Nat → Bool} {held : Bool}

/-- four cells that read as an option -/
theorem one {fuel : Nat} {cs : List Value} {x : DataW H × List MemPlace} (h : DataW.trod enc Try.prog w base spare held fuel 37 cs = some x) :
    ∃ o : Opt, cs = [.int .u8 o.l.toNat, .string o.v, .bool o.nw, .bool o.att] := by
  obtain ⟨xs, n, _, _, hl, hlen, hf⟩ := DataW.trod_struct Try.underlying37 h
  rw [cells37] at hl
  match cs, hl, xs, hlen with
  | [q0, q1, q2, q3], _, [y0, y1, y2, y3], _ =>
    have f0 := hf 0 _ rfl
    have f1 := hf 1 _ rfl
    have f2 := hf 2 _ rfl
    have f3 := hf 3 _ rfl
    simp [cells5, cells9, cells4] at f0 f1 f2 f3
    obtain ⟨l, e0, _, wl⟩ := DataW.trod_int Try.underlying5 f0
    obtain ⟨v, e1, _, _⟩ := DataW.trod_string Try.underlying9 f1
    obtain ⟨b2, e2, _⟩ := DataW.trod_bool Try.underlying4 f2
    obtain ⟨b3, e3, _⟩ := DataW.trod_bool Try.underlying4 f3
    simp at e0 e1 e2 e3
    subst e0 e1 e2 e3
    have hb := bounds_u8 wl
    refine ⟨⟨UInt8.ofNat l.toNat, v, b2, b3⟩, ?_⟩
    simp
    omega

theorem opts {fuel : Nat} {a : Option Addr} {len cap : Nat} {x : DataW H × List MemPlace} (h : DataW.trod enc Try.prog w base spare held fuel 22 [.slice a len cap] = some x) :
    ∃ os : List Opt, os.length = len ∧ OptsV w a os := by
  rcases Deep.open_slice Try.underlying22 h with ⟨hcs, _⟩ | ⟨a', len', cap', m, n, D, Pl, hcs, _, hl, _, hmm, _, hel⟩
  · simp at hcs
    exact ⟨[], by simp [hcs], .inl rfl⟩
  · simp at hcs
    obtain ⟨rfl, rfl, rfl⟩ := hcs
    have hlm : len ≤ m := by rw [hmm]; split <;> omega
    rw [cells37] at hel
    have each : ∀ i, i < len → ∃ o : Opt, ∀ j, j < 4 → w.cell? ((a'.add (i * 4)).add j) = ([.int .u8 o.l.toNat, .string o.v, .bool o.nw, .bool o.att] : List Value)[j]? := by
      intro i hi
      obtain ⟨cs, h1, h2⟩ := hel i (by omega)
      obtain ⟨o, ho⟩ := one h2
      obtain ⟨_, _, h3⟩ := World.cells?_some h1
      exact ⟨o, fun j hj => by rw [h3 j hj, ho]⟩
    by_cases hz : len = 0
    · exact ⟨[], by simp [hz], .inl rfl⟩
    · obtain ⟨b, off, spot⟩ := a'
      have hspot : spot = Option.none := by
        obtain ⟨o, ho⟩ := each 0 (by omega)
        have := ho 0 (by omega)
        simpa [Addr.add] using World.cell?_spot this
      subst hspot
      have : Inhabited Opt := ⟨⟨0, ByteArray.empty, false, false⟩⟩
      obtain ⟨f, hf⟩ := Deep.choose_lt each
      refine ⟨(List.range len).map f, by simp, .inr ⟨b, off, rfl, fun i hi => ?_⟩⟩
      have hi' : i < len := by simpa using hi
      have q0 := hf i hi' 0 (by omega)
      have q1 := hf i hi' 1 (by omega)
      have q2 := hf i hi' 2 (by omega)
      have q3 := hf i hi' 3 (by omega)
      rw [add_plain, add_plain] at q0 q1 q2 q3
      simp only [List.getElem_map, List.getElem_range]
      exact ⟨q0, q1, q2, q3⟩

theorem strs {fuel : Nat} {a : Option Addr} {len cap : Nat} {x : DataW H × List MemPlace} (h : DataW.trod enc Try.prog w base spare held fuel 23 [.slice a len cap] = some x) :
    ∃ R : List ByteArray, R.length = len ∧ StrsV w a R := by
  rcases Deep.open_strs Try.underlying23 Try.underlying9 cells9 h with ⟨hcs, _⟩ | ⟨a', len', cap', m, Sx, hcs, _, hl, _, hmm, _, hel⟩
  · simp at hcs
    exact ⟨[], by simp [hcs], .inl rfl⟩
  · simp at hcs
    obtain ⟨rfl, rfl, rfl⟩ := hcs
    have hlm : len ≤ m := by rw [hmm]; split <;> omega
    by_cases hz : len = 0
    · exact ⟨[], by simp [hz], .inl rfl⟩
    · obtain ⟨b, off, spot⟩ := a'
      have hspot : spot = Option.none := by
        have := (hel 0 (by omega)).1
        simpa [Addr.add] using World.cell?_spot this
      subst hspot
      refine ⟨(List.range len).map Sx, by simp, .inr ⟨b, off, rfl, fun i hi => ?_⟩⟩
      have hi' : i < len := by simpa using hi
      have q := (hel i (by omega)).1
      rw [add_plain] at q
      simp only [List.getElem_map, List.getElem_range]
      exact q
end

set_option maxRecDepth 100000 in
theorem lifted (os : Os) (started : os.Started) (H : Type) (enc : TypeId × Value → H) :
    ReturnsInHanded {} Try.checked os 3 .any (Rows.fnBuiltinOptionsRoundTripSpec.pre6 enc Try.prog Try.f3 Rows.fnBuiltinOptionsRoundTripRow.domain false) (Rows.fnBuiltinOptionsRoundTripSpec.post enc Try.prog Try.f3 false true false false) := by
  refine returnsInHanded_of_change (C := Try.checked) own started (by kernel_rfl) Try.func3
    (ChangeSpec.witness6 (enc := enc) (C := Try.checked) false ⟨#[], #[.string ⟨#[]⟩, .slice Option.none 0 0, .slice Option.none 0 0, .bool false], []⟩ 8 (by kernel_rfl) (by kernel_rfl) (by kernel_rfl) (by kernel_rfl)) ?_
  intro W base args ds gs before hval0 hW hcnd _
  have hval : ∀ (j : Nat) t v, Try.f3.params[j]? = some t → args[j]? = some v → Value.okWide Try.prog W .any base t v := hval0
  have hW' := hW
  obtain ⟨p, q, hA0, hV, rfl, hfz, hnd⟩ := hW
  have hA : DataW.TrodAll enc Try.prog W 0 (fun _ => true) true Try.f3.params.toList args.toList ds p := hA0
  rw [Try.params3] at hA hval
  obtain ⟨v0, vs0, d0, ds0, p0, q0, hargs, rfl, rfl, h0, r0⟩ := trodAll_cons hA
  obtain ⟨v1, vs1, d1, ds1, p1, q1, rfl, rfl, rfl, h1, r1⟩ := trodAll_cons r0
  obtain ⟨v2, vs2, d2, ds2, p2, q2, rfl, rfl, rfl, h2, r2⟩ := trodAll_cons r1
  obtain ⟨v3, vs3, d3, ds3, p3, q3, rfl, rfl, rfl, h3, r3⟩ := trodAll_cons r2
  obtain ⟨rfl, rfl, rfl⟩ := trodAll_nil r3
  obtain rfl : args = #[v0, v1, v2, v3] := by cases args; simp_all
  obtain ⟨rfl, rfl⟩ := trodVars_none hV
  obtain ⟨s, rfl, rfl, rfl, ws⟩ := open_string Try.underlying9 (hval 0 9 v0 rfl rfl) h0
  obtain ⟨a1, len1, cap1, rfl⟩ := okWide_slice Try.underlying22 (hval 1 22 v1 rfl rfl)
  have k1 := h1
  have lt1 : ∀ x ∈ p1, x.block < W.heap.size := by obtain ⟨m, hm⟩ := k1; exact DataW.trod_lt m _ _ _ hm
  obtain ⟨ol, hol, hO⟩ : ∃ ol : List Opt, ol.length = len1 ∧ OptsV W a1 ol := by
    obtain ⟨fuel, hf⟩ := h1
    exact opts (by simpa [Value.cells] using hf)
  obtain ⟨a2, len2, cap2, rfl⟩ := okWide_slice Try.underlying23 (hval 2 23 v2 rfl rfl)
  have k2 := h2
  have lt2 : ∀ x ∈ p2, x.block < W.heap.size := by obtain ⟨m, hm⟩ := k2; exact DataW.trod_lt m _ _ _ hm
  obtain ⟨R, hRl, hR⟩ : ∃ R : List ByteArray, R.length = len2 ∧ StrsV W a2 R := by
    obtain ⟨fuel, hf⟩ := h2
    exact strs (by simpa [Value.cells] using hf)
  obtain ⟨d, rfl, rfl, rfl⟩ := open_bool Try.underlying4 (hval 3 4 v3 rfl rfl) h3
  clear hA0 hval0
  subst hol hRl
  refine (Tp.top s a1 cap1 ol a2 cap2 R d W hO hR).mono fun e W' ⟨he, bel⟩ => ?_
  subst he
  exact ⟨_, rfl, _, _, _, [], _, [], hW', trodAll_mk1 (shut_bool Try.underlying4 _), (trodAll_cons_mk (shut_string Try.underlying9 ws) (trodAll_cons_mk (Below.trod laidOut (by kernel_rfl) (of_decide_eq_true (by kernel_rfl)) k1 bel lt1) (trodAll_cons_mk (Below.trod laidOut (by kernel_rfl) (of_decide_eq_true (by kernel_rfl)) k2 bel lt2) (trodAll_cons_mk (shut_bool Try.underlying4 _) trodAll_mk0)))), rfl, bel.frame _, fun h => by cases h⟩

theorem over : Rows.fnBuiltinOptionsRoundTripRow.holds Try.pinned (OpenSpec.ofChange Rows.fnBuiltinOptionsRoundTripSpec) :=
  OpenClaim.holds_of_wide 3 Try.f3 rfl rfl rfl rfl rfl rfl rfl ⟨rfl, rfl, rfl, rfl, rfl⟩ rfl rfl rfl rfl rfl (by kernel_rfl) Try.func3 (by kernel_rfl)
    (of_decide_eq_true (by kernel_rfl)) (by unfold Func.isWrapper; first | (rw [if_pos (by decide +kernel)]; kernel_rfl) | (rw [if_neg (by decide +kernel)]; exact ⟨rfl, rfl⟩))
    (fun os started H enc _ => lifted os started H enc)

/-- The statement. -/
theorem proved : Rows.FnBuiltinOptionsRoundTripSaid := over
#print axioms proved
end Go.Proofs.Qxb6601022a.fnBuiltinOptionsRoundTrip
