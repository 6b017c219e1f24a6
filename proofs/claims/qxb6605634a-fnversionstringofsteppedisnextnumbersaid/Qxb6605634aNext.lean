import Derived.Test.Qxb6605634aStepped
import Derived.Test.Qxb6605634aZinc
namespace Go.Proofs.Qxb6605634a
open Go.RowKit Go.Proofs.Qxb6605634a.Pl

/-- u, v, t are the next number after x, y, z at place i -/
def Nx (i : Int) (x y z u v t : ByteArray) : Prop :=
  (i = 0 ∧ u = incB x ∧ v = ⟨#[48]⟩ ∧ t = ⟨#[48]⟩) ∨ (i = 1 ∧ u = x ∧ v = incB y ∧ t = ⟨#[48]⟩) ∨ (i = 2 ∧ u = x ∧ v = y ∧ t = incB z)

theorem Nx.some {i : Int} (x y z : ByteArray) (h0 : 0 ≤ i) (h2 : i ≤ 2) : ∃ u v t, Nx i x y z u v t := by
  have : i = 0 ∨ i = 1 ∨ i = 2 := by omega
  rcases this with h | h | h
  · exact ⟨_, _, _, .inl ⟨h, rfl, rfl, rfl⟩⟩
  · exact ⟨_, _, _, .inr (.inl ⟨h, rfl, rfl, rfl⟩)⟩
  · exact ⟨_, _, _, .inr (.inr ⟨h, rfl, rfl, rfl⟩)⟩

theorem Sp.walk (T x y z p u v t : ByteArray) (a b c i : Int) (w : World) (hx : x.size ≤ 1048576) (hy : y.size ≤ 1048576) (hz : z.size ≤ 1048576) (hp : p.size ≤ 1048576) (hT : Hid (T = full x y z p))
    (dx : Hid (Digits (B x))) (dy : Hid (Digits (B y))) (dz : Hid (Digits (B z))) (dp : Hid (Ascii (B p))) (hi : Hid (Nx i x y z u v t)) :
    Calls Try.prog 56 #[Ver T a b c p, .int .i64 i] w fun e w' => Sp.Post w (join3 u v t) e w' := by
  rcases hi.out with ⟨rfl, rfl, rfl, rfl⟩ | ⟨rfl, rfl, rfl, rfl⟩ | ⟨rfl, rfl, rfl, rfl⟩
  · exact Sp.s0 T x y z p a b c w hx hy hz hp hT dx dy dz dp
  · exact Sp.s1 T u y z p a b c w hx hy hz hp hT dx dy dz dp
  · exact Sp.s2 T u v z p a b c w hx hy hz hp hT dx dy dz dp

set_option maxHeartbeats 400000 in
theorem Sp.zz (T x y z p u v t : ByteArray) (a b c i : Int) (w : World) (hx : x.size ≤ 1048576) (hy : y.size ≤ 1048576) (hz : z.size ≤ 1048576) (hp : p.size ≤ 1048576) (hT : Hid (T = full x y z p))
    (dx : Hid (Digits (B x))) (dy : Hid (Digits (B y))) (dz : Hid (Digits (B z))) (dp : Hid (Ascii (B p))) (hi : Hid (Nx i x y z u v t)) :
    Calls Try.prog 36 #[Ver T a b c p, .int .i64 i] w fun e w' => Sp.Post w (join3 u v t) e w' := by
  go_enter Try.func36, Try.ntmps36
  go_wp2_with fail
  refine (Sp.walk T x y z p u v t a b c i _ hx hy hz hp hT dx dy dz dp hi).mono ?_
  rintro e w1 ⟨a', b', c', p', rfl, hB⟩
  obtain ⟨F, hF⟩ : ∃ F, F = join3 u v t := ⟨_, rfl⟩
  rw [← hF]
  have HF : Hid (F = join3 u v t) := hF
  have q0 := hB.cell (p := ⟨w.heap.size + 1, 0, none⟩) (by simp)
  have q1 := hB.cell (p := ⟨w.heap.size + 1, 1, none⟩) (by simp)
  have q2 := hB.cell (p := ⟨w.heap.size + 1, 2, none⟩) (by simp)
  have q3 := hB.cell (p := ⟨w.heap.size + 1, 3, none⟩) (by simp)
  have q4 := hB.cell (p := ⟨w.heap.size + 1, 4, none⟩) (by simp)
  have f0 := hB.frozen (p := ⟨w.heap.size + 1, 0, none⟩) (by simp)
  have f1 := hB.frozen (p := ⟨w.heap.size + 1, 1, none⟩) (by simp)
  have f2 := hB.frozen (p := ⟨w.heap.size + 1, 2, none⟩) (by simp)
  have f3 := hB.frozen (p := ⟨w.heap.size + 1, 3, none⟩) (by simp)
  have f4 := hB.frozen (p := ⟨w.heap.size + 1, 4, none⟩) (by simp)
  have HB : Hid (Below w.heap.size w w1) := Mk.below2 hB
  simp at q0 q1 q2 q3 q4 f0 f1 f2 f3 f4
  clear hF hB
  go_wp2
  refine bodyPost_ret (v := Ver F a' b' c' p') (by simp [results, Try.results36, go_sem, q0, q1, q2, q3, q4]) rfl ⟨a', b', c', p', by rw [HF.out], ?_⟩
  exact ((((HB.out.setCell (by simp) _).setCell (by simp) _).setCell (by simp) _).setCell (by simp) _).setCell (by simp) _

/-- a text comes back -/
def St.Post (w : World) (t : ByteArray) (e : Ending) (w' : World) : Prop := e = .returned (.string t) ∧ Below w.heap.size w w'

theorem St.string (t p : ByteArray) (a b c : Int) (w : World) : Calls Try.prog 34 #[Ver t a b c p] w fun e w' => St.Post w t e w' := by
  go_enter Try.func34, Try.ntmps34
  go_wp2
  go_ret
  exact ⟨rfl, Below.one _ _⟩

theorem Zn.close {w w1 : World} {a b c : Value} (h : Hid (Below w.heap.size w w1)) :
    Below w.heap.size w (((w1.setCell ⟨w.heap.size + 1, 0, none⟩ a).setCell ⟨w.heap.size + 1, 1, none⟩ b).setCell ⟨w.heap.size + 1, 2, none⟩ c) :=
  ((h.out.setCell (by simp) _).setCell (by simp) _).setCell (by simp) _

set_option maxHeartbeats 1000000 in
theorem Zn.s0 (x y z : ByteArray) (w : World) (hx : x.size ≤ 1048576) (dx : Hid (Digits (B x))) :
    Calls Try.prog 37 #[Arr x y z, .int .i64 0] w fun e w' => Nu.Post w (incB x) ⟨#[48]⟩ ⟨#[48]⟩ e w' := by
  obtain ⟨X, hXX⟩ : ∃ X, X = incB x := ⟨_, rfl⟩
  rw [← hXX]
  have HX : Hid (X = incB x) := hXX
  clear hXX
  go_enter Try.func37, Try.ntmps37
  go_wp2_with fail
  refine (Zi.walk x _ hx dx).mono ?_
  rintro e w1 ⟨rfl, hB⟩
  rw [← HX.out]
  have q0 := hB.cell (p := ⟨w.heap.size + 1, 0, none⟩) (by simp)
  have q1 := hB.cell (p := ⟨w.heap.size + 1, 1, none⟩) (by simp)
  have q2 := hB.cell (p := ⟨w.heap.size + 1, 2, none⟩) (by simp)
  have f0 := hB.frozen (p := ⟨w.heap.size + 1, 0, none⟩) (by simp)
  have f1 := hB.frozen (p := ⟨w.heap.size + 1, 1, none⟩) (by simp)
  have f2 := hB.frozen (p := ⟨w.heap.size + 1, 2, none⟩) (by simp)
  have HB : Hid (Below w.heap.size w w1) := Mk.below2 hB
  simp at q0 q1 q2 f0 f1 f2
  clear hB
  go_wp2
  refine bodyPost_ret (v := Arr X ⟨#[48]⟩ ⟨#[48]⟩) (by simp [results, Try.results37, go_sem, q0, q1, q2]) rfl ⟨rfl, Zn.close HB⟩

end Go.Proofs.Qxb6605634a
