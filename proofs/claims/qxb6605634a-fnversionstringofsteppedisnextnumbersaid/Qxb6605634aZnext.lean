import Derived.Test.Qxb6605634aNext
import Derived.Deep.RegionWith
namespace Go.Proofs.Qxb6605634a
open Go.RowKit Go.Proofs.Qxb6605634a.Pl

/-- what a call leaves of the two blocks -/
structure Zn.Kept (w : World) (x y z : ByteArray) (w1 : World) : Prop where
  b0 : w1.cell? ⟨w.heap.size, 0, none⟩ = some (.string x)
  b1 : w1.cell? ⟨w.heap.size, 1, none⟩ = some (.string y)
  b2 : w1.cell? ⟨w.heap.size, 2, none⟩ = some (.string z)
  q0 : w1.cell? ⟨w.heap.size + 1, 0, none⟩ = some (.string ⟨#[]⟩)
  q1 : w1.cell? ⟨w.heap.size + 1, 1, none⟩ = some (.string ⟨#[]⟩)
  q2 : w1.cell? ⟨w.heap.size + 1, 2, none⟩ = some (.string ⟨#[]⟩)
  f0 : w1.frozen? ⟨w.heap.size + 1, 0, none⟩ = false
  f1 : w1.frozen? ⟨w.heap.size + 1, 1, none⟩ = false
  f2 : w1.frozen? ⟨w.heap.size + 1, 2, none⟩ = false
  below : Hid (Below w.heap.size w w1)

abbrev Zn.W (w : World) (x y z : ByteArray) : World := (w.alloc (.cells #[.string x, .string y, .string z] 23)).alloc (.cells #[.string ⟨#[]⟩, .string ⟨#[]⟩, .string ⟨#[]⟩] 23)

theorem Zn.kept {w w1 : World} {x y z : ByteArray} (hB : Below (Zn.W w x y z).heap.size (Zn.W w x y z) w1) : Zn.Kept w x y z w1 := by
  refine ⟨?_, ?_, ?_, ?_, ?_, ?_, ?_, ?_, ?_, Mk.below2 hB⟩
  · rw [hB.cell (by simp; omega)]; simp
  · rw [hB.cell (by simp; omega)]; simp
  · rw [hB.cell (by simp; omega)]; simp
  · rw [hB.cell (by simp)]; simp
  · rw [hB.cell (by simp)]; simp
  · rw [hB.cell (by simp)]; simp
  · rw [hB.frozen (by simp)]; simp
  · rw [hB.frozen (by simp)]; simp
  · rw [hB.frozen (by simp)]; simp

theorem Zn.close' {w w1 : World} {q : Nat} {a b c : Value} (h : Hid (Below w.heap.size w w1)) :
    Below w.heap.size w (((((w1.drewN q).setCell ⟨w.heap.size + 1, 0, none⟩ a).setCell ⟨w.heap.size + 1, 1, none⟩ b).setCell ⟨w.heap.size + 1, 2, none⟩ c)) :=
  (((Nu.drawn h.out q).setCell (by simp) _).setCell (by simp) _).setCell (by simp) _

set_option maxHeartbeats 1000000 in
theorem Zn.s1 (x y z : ByteArray) (w : World) (hy : y.size ≤ 1048576) (dy : Hid (Digits (B y))) :
    Calls Try.prog 37 #[Arr x y z, .int .i64 1] w fun e w' => Nu.Post w x (incB y) ⟨#[48]⟩ e w' := by
  obtain ⟨X, hXX⟩ : ∃ X, X = incB y := ⟨_, rfl⟩
  rw [← hXX]
  have HX : Hid (X = incB y) := hXX
  clear hXX
  go_enter Try.func37, Try.ntmps37
  go_wp2_with fail
  go_region_with (go_at_call 57; refine (Zi.walk y _ hy dy).mono ?_; rintro e w1 ⟨rfl, hB⟩; rw [← HX.out]; obtain ⟨b0, b1, b2, q0, q1, q2, f0, f1, f2, HB⟩ := Zn.kept (w := w) (x := x) (y := y) (z := z) ⟨hB.os, hB.tape, hB.output, hB.size, hB.block⟩; clear hB)
  all_goals go_wp2
  all_goals refine bodyPost_ret (v := Arr x X ⟨#[48]⟩) (by simp [results, Try.results37, go_sem, q0, q1, q2]) rfl ⟨rfl, ?_⟩
  all_goals first
    | exact Zn.close HB
    | exact Zn.close' HB
    | exact Zn.close (w1 := w1.drew) (Nu.drawn HB.out 1)

set_option maxHeartbeats 20000000 in
theorem Zn.s2 (x y z : ByteArray) (w : World) (hz : z.size ≤ 1048576) (dz : Hid (Digits (B z))) :
    Calls Try.prog 37 #[Arr x y z, .int .i64 2] w fun e w' => Nu.Post w x y (incB z) e w' := by
  obtain ⟨X, hXX⟩ : ∃ X, X = incB z := ⟨_, rfl⟩
  rw [← hXX]
  have HX : Hid (X = incB z) := hXX
  clear hXX
  go_enter Try.func37, Try.ntmps37
  go_wp2_with fail
  go_region_with (go_at_call 57; refine (Zi.walk z _ hz dz).mono ?_; rintro e w1 ⟨rfl, hB⟩; rw [← HX.out]; obtain ⟨b0, b1, b2, q0, q1, q2, f0, f1, f2, HB⟩ := Zn.kept (w := w) (x := x) (y := y) (z := z) ⟨hB.os, hB.tape, hB.output, hB.size, hB.block⟩; clear hB)
  all_goals go_wp2
  all_goals refine bodyPost_ret (v := Arr x y X) (by simp [results, Try.results37, go_sem, q0, q1, q2]) rfl ⟨rfl, ?_⟩
  all_goals first
    | exact Zn.close HB
    | exact Zn.close' HB
    | exact Zn.close (w1 := w1.drew) (Nu.drawn HB.out 1)

theorem Zn.walk (x y z u v t : ByteArray) (i : Int) (w : World) (hx : x.size ≤ 1048576) (hy : y.size ≤ 1048576) (hz : z.size ≤ 1048576)
    (dx : Hid (Digits (B x))) (dy : Hid (Digits (B y))) (dz : Hid (Digits (B z))) (hi : Hid (Nx i x y z u v t)) :
    Calls Try.prog 37 #[Arr x y z, .int .i64 i] w fun e w' => Nu.Post w u v t e w' := by
  rcases hi.out with ⟨rfl, rfl, rfl, rfl⟩ | ⟨rfl, rfl, rfl, rfl⟩ | ⟨rfl, rfl, rfl, rfl⟩
  · exact Zn.s0 x y z w hx dx
  · exact Zn.s1 u y z w hy dy
  · exact Zn.s2 u v z w hz dz

end Go.Proofs.Qxb6605634a
