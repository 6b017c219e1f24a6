import Derived.Test.Qxb6605634aStep
namespace Go.Proofs.Qxb6605634a
open Go.RowKit Go.Proofs.Qxb6605634a.Pl

/-- a version of this text comes back -/
def Sp.Post (w : World) (t : ByteArray) (e : Ending) (w' : World) : Prop := ∃ (a b c : Int) (p : ByteArray), e = .returned (Ver t a b c p) ∧ Below w.heap.size w w'

theorem zero_size : (ByteArray.mk #[48]).size ≤ 2097152 := by decide
theorem none_size : (ByteArray.mk #[]).size ≤ 2097152 := by decide
theorem none_empty : (ByteArray.mk #[]).toList.isEmpty = true := by rw [ByteArray.toList, ByteArray.toList.loop]; rfl

set_option maxRecDepth 100000 in
set_option maxHeartbeats 1000000 in
theorem Sp.s0 (T x y z p : ByteArray) (a b c : Int) (w : World) (hx : x.size ≤ 1048576) (hy : y.size ≤ 1048576) (hz : z.size ≤ 1048576) (hp : p.size ≤ 1048576) (hT : Hid (T = full x y z p))
    (dx : Hid (Digits (B x))) (dy : Hid (Digits (B y))) (dz : Hid (Digits (B z))) (dp : Hid (Ascii (B p))) :
    Calls Try.prog 56 #[Ver T a b c p, .int .i64 0] w fun e w' => Sp.Post w (join3 (incB x) ⟨#[48]⟩ ⟨#[48]⟩) e w' := by
  have hX : Hid ((incB x).size ≤ 2097152) := by have := incB_size x; show _ ≤ _; omega
  obtain ⟨X, hXX⟩ : ∃ X, X = incB x := ⟨_, rfl⟩
  rw [← hXX] at hX ⊢
  have HX : Hid (X = incB x) := hXX
  clear hXX
  go_enter Try.func56, Try.ntmps56
  go_wp2_with fail
  refine (Nu.walk T x y z p a b c _ hx hy hz hp hT dx dy dz dp).mono ?_
  rintro e w1 ⟨rfl, hB⟩
  have S0 := Stp.first (x := x) (y := y) (z := z) hB
  clear hB
  go_wp2_with fail
  refine (Ic.walk x _ hx dx).mono ?_
  rintro e w2 ⟨rfl, hB⟩
  rw [← HX.out]
  have S1 := Stp.call S0 (by simp) hB
  clear hB S0
  obtain ⟨g, hg⟩ : ∃ g, g = w1.heap.size := ⟨_, rfl⟩
  rw [← hg] at S1 ⊢
  clear hg
  have f := S1.out.f0
  have c := S1.out.c0
  go_wp2
  have S2 := Stp.set0 S1 X
  clear f c S1
  obtain ⟨ws, hws⟩ : ∃ ws, ws = w2.setCell ⟨g, 0, none⟩ (.string X) := ⟨_, rfl⟩
  rw [← hws] at S2 ⊢
  clear hws
  go_loopw [6] (fun i wr => ∃ (k : Nat) (v t : ByteArray), i = .int .i64 k ∧ Hid (Stp w g X v t wr) ∧ ((k = 1 ∧ v = y ∧ t = z) ∨ (k = 2 ∧ v = ⟨#[48]⟩ ∧ t = z) ∨ (k = 3 ∧ v = ⟨#[48]⟩ ∧ t = ⟨#[48]⟩))) (fun i _ => 3 - (intOf i).toNat)
  case atStart => exact ⟨1, y, z, rfl, S2, .inl ⟨rfl, rfl, rfl⟩⟩
  case round =>
    obtain ⟨k, v, t, rfl, S, ⟨rfl, rfl, rfl⟩ | ⟨rfl, rfl, rfl⟩ | ⟨rfl, rfl, rfl⟩⟩ := hrel
    · have f := S.out.f1
      have c := S.out.c1
      go_wp2
      go_roundw
      case rel => exact ⟨2, _, _, rfl, Stp.set1 S _, .inr (.inl ⟨rfl, rfl, rfl⟩)⟩
      case measure => simp [intOf]
    · have f := S.out.f2
      have c := S.out.c2
      go_wp2
      go_roundw
      case rel => exact ⟨3, _, _, rfl, Stp.set2 S _, .inr (.inr ⟨rfl, rfl, rfl⟩)⟩
      case measure => simp [intOf]
    · have c0 := S.out.c0
      have c1 := S.out.c1
      have c2 := S.out.c2
      go_wp2_with fail
      refine (Mk.make X ⟨#[48]⟩ ⟨#[48]⟩ ⟨#[]⟩ _ hX.out zero_size zero_size none_size).mono ?_
      rw [full_bare none_empty]
      rintro e w4 ⟨a', b', c', rfl, hB⟩
      obtain ⟨F, hF⟩ : ∃ F, F = join3 X ⟨#[48]⟩ ⟨#[48]⟩ := ⟨_, rfl⟩
      rw [← hF]
      have HF : Hid (F = join3 X ⟨#[48]⟩ ⟨#[48]⟩) := hF
      have HB : Hid (Below wr.heap.size wr w4) := hB
      have m : w.heap.size + 1 < wr.heap.size := by have := S.out.size; omega
      have q0 := (hB.cell (p := ⟨w.heap.size + 1, 0, none⟩) m).trans S.out.q0
      have q1 := (hB.cell (p := ⟨w.heap.size + 1, 1, none⟩) m).trans S.out.q1
      have q2 := (hB.cell (p := ⟨w.heap.size + 1, 2, none⟩) m).trans S.out.q2
      have q3 := (hB.cell (p := ⟨w.heap.size + 1, 3, none⟩) m).trans S.out.q3
      have q4 := (hB.cell (p := ⟨w.heap.size + 1, 4, none⟩) m).trans S.out.q4
      have p0 := (hB.frozen (p := ⟨w.heap.size + 1, 0, none⟩) m).trans S.out.p0
      have p1 := (hB.frozen (p := ⟨w.heap.size + 1, 1, none⟩) m).trans S.out.p1
      have p2 := (hB.frozen (p := ⟨w.heap.size + 1, 2, none⟩) m).trans S.out.p2
      have p3 := (hB.frozen (p := ⟨w.heap.size + 1, 3, none⟩) m).trans S.out.p3
      have p4 := (hB.frozen (p := ⟨w.heap.size + 1, 4, none⟩) m).trans S.out.p4
      clear hF hB
      go_wp2
      refine bodyPost_ret (v := Ver F a' b' c' ⟨#[]⟩) (by simp [results, Try.results56, go_sem, q0, q1, q2, q3, q4]) rfl ⟨a', b', c', _, by rw [HF.out], Stp.done S HB.out⟩

set_option maxRecDepth 100000 in
set_option maxHeartbeats 1000000 in
theorem Sp.s1 (T x y z p : ByteArray) (a b c : Int) (w : World) (hx : x.size ≤ 1048576) (hy : y.size ≤ 1048576) (hz : z.size ≤ 1048576) (hp : p.size ≤ 1048576) (hT : Hid (T = full x y z p))
    (dx : Hid (Digits (B x))) (dy : Hid (Digits (B y))) (dz : Hid (Digits (B z))) (dp : Hid (Ascii (B p))) :
    Calls Try.prog 56 #[Ver T a b c p, .int .i64 1] w fun e w' => Sp.Post w (join3 x (incB y) ⟨#[48]⟩) e w' := by
  have hX : Hid ((incB y).size ≤ 2097152) := by have := incB_size y; show _ ≤ _; omega
  obtain ⟨X, hXX⟩ : ∃ X, X = incB y := ⟨_, rfl⟩
  rw [← hXX] at hX ⊢
  have HX : Hid (X = incB y) := hXX
  clear hXX
  go_enter Try.func56, Try.ntmps56
  go_wp2_with fail
  refine (Nu.walk T x y z p a b c _ hx hy hz hp hT dx dy dz dp).mono ?_
  rintro e w1 ⟨rfl, hB⟩
  have S0 := Stp.first (x := x) (y := y) (z := z) hB
  clear hB
  go_wp2_with fail
  refine (Ic.walk y _ hy dy).mono ?_
  rintro e w2 ⟨rfl, hB⟩
  rw [← HX.out]
  have S1 := Stp.call S0 (by simp) hB
  clear hB S0
  obtain ⟨g, hg⟩ : ∃ g, g = w1.heap.size := ⟨_, rfl⟩
  rw [← hg] at S1 ⊢
  clear hg
  have f := S1.out.f1
  have c := S1.out.c1
  go_wp2
  have S2 := Stp.set1 S1 X
  clear f c S1
  obtain ⟨ws, hws⟩ : ∃ ws, ws = w2.setCell ⟨g, 1, none⟩ (.string X) := ⟨_, rfl⟩
  rw [← hws] at S2 ⊢
  clear hws
  go_loopw [6] (fun i wr => ∃ (k : Nat) (t : ByteArray), i = .int .i64 k ∧ Hid (Stp w g x X t wr) ∧ ((k = 2 ∧ t = z) ∨ (k = 3 ∧ t = ⟨#[48]⟩))) (fun i _ => 3 - (intOf i).toNat)
  case atStart => exact ⟨2, z, rfl, S2, .inl ⟨rfl, rfl⟩⟩
  case round =>
    obtain ⟨k, t, rfl, S, ⟨rfl, rfl⟩ | ⟨rfl, rfl⟩⟩ := hrel
    · have f := S.out.f2
      have c := S.out.c2
      go_wp2
      go_roundw
      case rel => exact ⟨3, _, rfl, Stp.set2 S _, .inr ⟨rfl, rfl⟩⟩
      case measure => simp [intOf]
    · have c0 := S.out.c0
      have c1 := S.out.c1
      have c2 := S.out.c2
      go_wp2_with fail
      refine (Mk.make x X ⟨#[48]⟩ ⟨#[]⟩ _ (by omega) hX.out zero_size none_size).mono ?_
      rw [full_bare none_empty]
      rintro e w4 ⟨a', b', c', rfl, hB⟩
      obtain ⟨F, hF⟩ : ∃ F, F = join3 x X ⟨#[48]⟩ := ⟨_, rfl⟩
      rw [← hF]
      have HF : Hid (F = join3 x X ⟨#[48]⟩) := hF
      have HB : Hid (Below wr.heap.size wr w4) := hB
      have m : w.heap.size + 1 < wr.heap.size := by have := S.out.size; omega
      have q0 := (hB.cell (p := ⟨w.heap.size + 1, 0, none⟩) m).trans S.out.q0
      have q1 := (hB.cell (p := ⟨w.heap.size + 1, 1, none⟩) m).trans S.out.q1
      have q2 := (hB.cell (p := ⟨w.heap.size + 1, 2, none⟩) m).trans S.out.q2
      have q3 := (hB.cell (p := ⟨w.heap.size + 1, 3, none⟩) m).trans S.out.q3
      have q4 := (hB.cell (p := ⟨w.heap.size + 1, 4, none⟩) m).trans S.out.q4
      have p0 := (hB.frozen (p := ⟨w.heap.size + 1, 0, none⟩) m).trans S.out.p0
      have p1 := (hB.frozen (p := ⟨w.heap.size + 1, 1, none⟩) m).trans S.out.p1
      have p2 := (hB.frozen (p := ⟨w.heap.size + 1, 2, none⟩) m).trans S.out.p2
      have p3 := (hB.frozen (p := ⟨w.heap.size + 1, 3, none⟩) m).trans S.out.p3
      have p4 := (hB.frozen (p := ⟨w.heap.size + 1, 4, none⟩) m).trans S.out.p4
      clear hF hB
      go_wp2
      refine bodyPost_ret (v := Ver F a' b' c' ⟨#[]⟩) (by simp [results, Try.results56, go_sem, q0, q1, q2, q3, q4]) rfl ⟨a', b', c', _, by rw [HF.out], Stp.done S HB.out⟩

set_option maxRecDepth 100000 in
set_option maxHeartbeats 1000000 in
theorem Sp.s2 (T x y z p : ByteArray) (a b c : Int) (w : World) (hx : x.size ≤ 1048576) (hy : y.size ≤ 1048576) (hz : z.size ≤ 1048576) (hp : p.size ≤ 1048576) (hT : Hid (T = full x y z p))
    (dx : Hid (Digits (B x))) (dy : Hid (Digits (B y))) (dz : Hid (Digits (B z))) (dp : Hid (Ascii (B p))) :
    Calls Try.prog 56 #[Ver T a b c p, .int .i64 2] w fun e w' => Sp.Post w (join3 x y (incB z)) e w' := by
  have hX : Hid ((incB z).size ≤ 2097152) := by have := incB_size z; show _ ≤ _; omega
  obtain ⟨X, hXX⟩ : ∃ X, X = incB z := ⟨_, rfl⟩
  rw [← hXX] at hX ⊢
  have HX : Hid (X = incB z) := hXX
  clear hXX
  go_enter Try.func56, Try.ntmps56
  go_wp2_with fail
  refine (Nu.walk T x y z p a b c _ hx hy hz hp hT dx dy dz dp).mono ?_
  rintro e w1 ⟨rfl, hB⟩
  have S0 := Stp.first (x := x) (y := y) (z := z) hB
  clear hB
  go_wp2_with fail
  refine (Ic.walk z _ hz dz).mono ?_
  rintro e w2 ⟨rfl, hB⟩
  rw [← HX.out]
  have S1 := Stp.call S0 (by simp) hB
  clear hB S0
  obtain ⟨g, hg⟩ : ∃ g, g = w1.heap.size := ⟨_, rfl⟩
  rw [← hg] at S1 ⊢
  clear hg
  have f := S1.out.f2
  have c := S1.out.c2
  go_wp2
  have S2 := Stp.set2 S1 X
  clear f c S1
  obtain ⟨ws, hws⟩ : ∃ ws, ws = w2.setCell ⟨g, 2, none⟩ (.string X) := ⟨_, rfl⟩
  rw [← hws] at S2 ⊢
  clear hws
  go_loopw [6] (fun i wr => i = .int .i64 3 ∧ Hid (Stp w g x y X wr)) (fun i _ => 3 - (intOf i).toNat)
  case atStart => exact ⟨rfl, S2⟩
  case round =>
    obtain ⟨rfl, S⟩ := hrel
    · have c0 := S.out.c0
      have c1 := S.out.c1
      have c2 := S.out.c2
      go_wp2_with fail
      refine (Mk.make x y X ⟨#[]⟩ _ (by omega) (by omega) hX.out none_size).mono ?_
      rw [full_bare none_empty]
      rintro e w4 ⟨a', b', c', rfl, hB⟩
      obtain ⟨F, hF⟩ : ∃ F, F = join3 x y X := ⟨_, rfl⟩
      rw [← hF]
      have HF : Hid (F = join3 x y X) := hF
      have HB : Hid (Below wr.heap.size wr w4) := hB
      have m : w.heap.size + 1 < wr.heap.size := by have := S.out.size; omega
      have q0 := (hB.cell (p := ⟨w.heap.size + 1, 0, none⟩) m).trans S.out.q0
      have q1 := (hB.cell (p := ⟨w.heap.size + 1, 1, none⟩) m).trans S.out.q1
      have q2 := (hB.cell (p := ⟨w.heap.size + 1, 2, none⟩) m).trans S.out.q2
      have q3 := (hB.cell (p := ⟨w.heap.size + 1, 3, none⟩) m).trans S.out.q3
      have q4 := (hB.cell (p := ⟨w.heap.size + 1, 4, none⟩) m).trans S.out.q4
      have p0 := (hB.frozen (p := ⟨w.heap.size + 1, 0, none⟩) m).trans S.out.p0
      have p1 := (hB.frozen (p := ⟨w.heap.size + 1, 1, none⟩) m).trans S.out.p1
      have p2 := (hB.frozen (p := ⟨w.heap.size + 1, 2, none⟩) m).trans S.out.p2
      have p3 := (hB.frozen (p := ⟨w.heap.size + 1, 3, none⟩) m).trans S.out.p3
      have p4 := (hB.frozen (p := ⟨w.heap.size + 1, 4, none⟩) m).trans S.out.p4
      clear hF hB
      go_wp2
      refine bodyPost_ret (v := Ver F a' b' c' ⟨#[]⟩) (by simp [results, Try.results56, go_sem, q0, q1, q2, q3, q4]) rfl ⟨a', b', c', _, by rw [HF.out], Stp.done S HB.out⟩

end Go.Proofs.Qxb6605634a
