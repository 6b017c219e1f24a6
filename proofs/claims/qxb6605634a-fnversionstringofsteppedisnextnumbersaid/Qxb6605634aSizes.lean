import Derived.Test.Qxb6605634aValid
namespace Go.Proofs.Qxb6605634a
open Go.RowKit Go.Proofs.Qxb6605634a.Pl

/-- the three numbers as one value -/
abbrev Arr (x y z : ByteArray) : Value := .agg #[.string x, .string y, .string z]

/-- a Bool comes back; where it is true, Q holds; what lay there lies there -/
def RetN (w : World) (Q : Prop) (e : Ending) (w' : World) : Prop := ∃ r : Bool, e = .returned (.bool r) ∧ (r = true → Q) ∧ Below w.heap.size w w'

theorem Below.one (w : World) (o : Obj) : Below w.heap.size w (w.alloc o) := (Below.refl _ _).alloc (Nat.le_refl _) _

set_option maxHeartbeats 1000000 in
theorem Sz.zz (x y z p : ByteArray) (i : Int) (w : World) :
    Calls Try.prog 35 #[Arr x y z, .string p, .int .i64 i] w fun e w' => RetN w (x.size ≤ 1048576 ∧ y.size ≤ 1048576 ∧ z.size ≤ 1048576 ∧ p.size ≤ 1048576) e w' := by
  have no : ∀ P : Prop, (false = true → P) := fun P h => by cases h
  go_enter Try.func35, Try.ntmps35
  go_wp2
  go_loop [7, 8] (fun t i => ∃ k n : Nat, k ≤ 3 ∧ i = .int .i64 k ∧ t = .int .i64 n ∧ n ≤ 1048576 ∧ (1 ≤ k → x.size ≤ 1048576) ∧ (2 ≤ k → y.size ≤ 1048576) ∧ (3 ≤ k → z.size ≤ 1048576)) (fun _ i => 3 - (intOf i).toNat)
  case atStart => exact ⟨0, 0, by omega, rfl, rfl, by omega, by omega, by omega, by omega⟩
  case round =>
    obtain ⟨k, n, hk, rfl, rfl, hn, h1, h2, h3⟩ := hrel
    match k, hk with
    | 0, _ =>
      by_cases g1 : (1048576 : Int) < x.size
      · go_wp2
        go_ret
        exact ⟨false, rfl, no _, Below.one _ _⟩
      by_cases g2 : (1048576 : Int) < n + x.size
      · go_wp2
        go_ret
        exact ⟨false, rfl, no _, Below.one _ _⟩
      go_wp2
      go_round
      case rel => exact ⟨1, n + x.size, by omega, by go_num, by go_num, by omega, by omega, by omega, by omega⟩
      case measure => simp [intOf]
    | 1, _ =>
      by_cases g1 : (1048576 : Int) < y.size
      · go_wp2
        go_ret
        exact ⟨false, rfl, no _, Below.one _ _⟩
      by_cases g2 : (1048576 : Int) < n + y.size
      · go_wp2
        go_ret
        exact ⟨false, rfl, no _, Below.one _ _⟩
      go_wp2
      go_round
      case rel => exact ⟨2, n + y.size, by omega, by go_num, by go_num, by omega, by omega, by omega, by omega⟩
      case measure => simp [intOf]
    | 2, _ =>
      by_cases g1 : (1048576 : Int) < z.size
      · go_wp2
        go_ret
        exact ⟨false, rfl, no _, Below.one _ _⟩
      by_cases g2 : (1048576 : Int) < n + z.size
      · go_wp2
        go_ret
        exact ⟨false, rfl, no _, Below.one _ _⟩
      go_wp2
      go_round
      case rel => exact ⟨3, n + z.size, by omega, by go_num, by go_num, by omega, by omega, by omega, by omega⟩
      case measure => simp [intOf]
    | 3, _ =>
      have b1 : Hid (x.size ≤ 1048576) := h1 (by omega)
      have b2 : Hid (y.size ≤ 1048576) := h2 (by omega)
      have b3 : Hid (z.size ≤ 1048576) := h3 (by omega)
      clear h1 h2 h3
      by_cases g1 : (1048576 : Int) < p.size
      · go_wp2
        go_ret
        exact ⟨false, rfl, no _, Below.one _ _⟩
      by_cases g2 : (1048576 : Int) < n + p.size
      · go_wp2
        go_ret
        exact ⟨false, rfl, no _, Below.one _ _⟩
      go_wp2
      go_ret
      exact ⟨true, rfl, fun _ => ⟨b1.out, b2.out, b3.out, by omega⟩, Below.one _ _⟩

set_option maxHeartbeats 400000 in
theorem Sz.bytes (x y z p : ByteArray) (w : World) (hx : x.size ≤ 1048576) (hy : y.size ≤ 1048576) (hz : z.size ≤ 1048576) (hp : p.size ≤ 1048576) :
    Calls Try.prog 13 #[Arr x y z, .string p] w fun e w' => ∃ n : Nat, e = .returned (.int .i64 n) ∧ n ≤ 4194304 ∧ Below w.heap.size w w' := by
  go_enter Try.func13, Try.ntmps13
  go_wp2
  go_ret
  exact ⟨x.size + y.size + z.size + p.size, by simp, by omega, Below.one _ _⟩

set_option maxHeartbeats 1000000 in
theorem Sz.valid (x y z p : ByteArray) (w : World) (hx : x.size ≤ 1048576) (hy : y.size ≤ 1048576) (hz : z.size ≤ 1048576) (hp : p.size ≤ 1048576) :
    Calls Try.prog 14 #[Arr x y z, .string p] w fun e w' => RetN w (Digits (B x) ∧ Digits (B y) ∧ Digits (B z) ∧ Ascii (B p)) e w' := by
  have no : ∀ P : Prop, (false = true → P) := fun P h => by cases h
  go_enter Try.func14, Try.ntmps14
  go_wp2_with fail
  refine (Vd.number x _ hx).mono ?_
  rintro e w1 ⟨r1, rfl, hr1, hw⟩
  subst hw
  cases r1
  · go_wp2
    go_ret
    exact ⟨false, rfl, no _, Below.one _ _⟩
  have H1 : Hid (Digits (B x)) := hr1 rfl
  clear hr1
  go_wp2_with fail
  refine (Vd.number y _ hy).mono ?_
  rintro e w1 ⟨r2, rfl, hr2, hw⟩
  subst hw
  cases r2
  · go_wp2
    go_ret
    exact ⟨false, rfl, no _, Below.one _ _⟩
  have H2 : Hid (Digits (B y)) := hr2 rfl
  clear hr2
  go_wp2_with fail
  refine (Vd.number z _ hz).mono ?_
  rintro e w1 ⟨r3, rfl, hr3, hw⟩
  subst hw
  cases r3
  · go_wp2
    go_ret
    exact ⟨false, rfl, no _, Below.one _ _⟩
  have H3 : Hid (Digits (B z)) := hr3 rfl
  clear hr3
  go_wp2_with fail
  refine (Vd.pre p _ hp).mono ?_
  rintro e w1 ⟨r4, rfl, hr4, hw⟩
  subst hw
  cases r4
  · go_wp2
    go_ret
    exact ⟨false, rfl, no _, Below.one _ _⟩
  have HV : Hid (Digits (B x) ∧ Digits (B y) ∧ Digits (B z) ∧ Ascii (B p)) := ⟨H1.out, H2.out, H3.out, hr4 rfl⟩
  clear hr4
  go_wp2
  go_ret
  exact ⟨true, rfl, fun _ => HV.out, Below.one _ _⟩

end Go.Proofs.Qxb6605634a
