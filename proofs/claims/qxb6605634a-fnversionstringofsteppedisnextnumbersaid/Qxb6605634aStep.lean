import Derived.Test.Qxb6605634aNumbers
namespace Go.Proofs.Qxb6605634a
open Go.RowKit Go.Proofs.Qxb6605634a.Pl

/-- three texts lie in block g, a version in the second block above w -/
structure Stp (w : World) (g : Nat) (u v t : ByteArray) (wr : World) : Prop where
  c0 : wr.cell? ⟨g, 0, none⟩ = some (.string u)
  c1 : wr.cell? ⟨g, 1, none⟩ = some (.string v)
  c2 : wr.cell? ⟨g, 2, none⟩ = some (.string t)
  f0 : wr.frozen? ⟨g, 0, none⟩ = false
  f1 : wr.frozen? ⟨g, 1, none⟩ = false
  f2 : wr.frozen? ⟨g, 2, none⟩ = false
  q0 : wr.cell? ⟨w.heap.size + 1, 0, none⟩ = some (.string ⟨#[]⟩)
  q1 : wr.cell? ⟨w.heap.size + 1, 1, none⟩ = some (.int .u64 0)
  q2 : wr.cell? ⟨w.heap.size + 1, 2, none⟩ = some (.int .u64 0)
  q3 : wr.cell? ⟨w.heap.size + 1, 3, none⟩ = some (.int .u64 0)
  q4 : wr.cell? ⟨w.heap.size + 1, 4, none⟩ = some (.string ⟨#[]⟩)
  p0 : wr.frozen? ⟨w.heap.size + 1, 0, none⟩ = false
  p1 : wr.frozen? ⟨w.heap.size + 1, 1, none⟩ = false
  p2 : wr.frozen? ⟨w.heap.size + 1, 2, none⟩ = false
  p3 : wr.frozen? ⟨w.heap.size + 1, 3, none⟩ = false
  p4 : wr.frozen? ⟨w.heap.size + 1, 4, none⟩ = false
  below : Below w.heap.size w wr
  far : w.heap.size + 2 ≤ g
  size : w.heap.size + 2 ≤ wr.heap.size

theorem Stp.off {k g j i : Nat} (h : k + 2 ≤ g) : (⟨k + 1, j, none⟩ : Addr) ≠ ⟨g, i, none⟩ := by intro e; injection e with e1; omega

theorem Stp.set0 {w wr : World} {g : Nat} {u v t : ByteArray} (h : Hid (Stp w g u v t wr)) (s : ByteArray) : Hid (Stp w g s v t (wr.setCell ⟨g, 0, none⟩ (.string s))) := by
  have h := h.out
  have d := fun j => Stp.off (j := j) (i := 0) h.far
  exact ⟨World.cell?_setCell_same _ _ _ h.c0, by rw [World.cell?_setCell_other _ _ _ _ (by simp)]; exact h.c1, by rw [World.cell?_setCell_other _ _ _ _ (by simp)]; exact h.c2,
    by rw [World.frozen?_setCell]; exact h.f0, by rw [World.frozen?_setCell]; exact h.f1, by rw [World.frozen?_setCell]; exact h.f2,
    by rw [World.cell?_setCell_other _ _ _ _ (d 0).symm]; exact h.q0, by rw [World.cell?_setCell_other _ _ _ _ (d 1).symm]; exact h.q1, by rw [World.cell?_setCell_other _ _ _ _ (d 2).symm]; exact h.q2, by rw [World.cell?_setCell_other _ _ _ _ (d 3).symm]; exact h.q3, by rw [World.cell?_setCell_other _ _ _ _ (d 4).symm]; exact h.q4,
    by rw [World.frozen?_setCell]; exact h.p0, by rw [World.frozen?_setCell]; exact h.p1, by rw [World.frozen?_setCell]; exact h.p2, by rw [World.frozen?_setCell]; exact h.p3, by rw [World.frozen?_setCell]; exact h.p4,
    h.below.setCell (by have := h.far; simp; omega) _, h.far, by have := h.size; simp; exact this⟩

theorem Stp.set1 {w wr : World} {g : Nat} {u v t : ByteArray} (h : Hid (Stp w g u v t wr)) (s : ByteArray) : Hid (Stp w g u s t (wr.setCell ⟨g, 1, none⟩ (.string s))) := by
  have h := h.out
  have d := fun j => Stp.off (j := j) (i := 1) h.far
  exact ⟨by rw [World.cell?_setCell_other _ _ _ _ (by simp)]; exact h.c0, World.cell?_setCell_same _ _ _ h.c1, by rw [World.cell?_setCell_other _ _ _ _ (by simp)]; exact h.c2,
    by rw [World.frozen?_setCell]; exact h.f0, by rw [World.frozen?_setCell]; exact h.f1, by rw [World.frozen?_setCell]; exact h.f2,
    by rw [World.cell?_setCell_other _ _ _ _ (d 0).symm]; exact h.q0, by rw [World.cell?_setCell_other _ _ _ _ (d 1).symm]; exact h.q1, by rw [World.cell?_setCell_other _ _ _ _ (d 2).symm]; exact h.q2, by rw [World.cell?_setCell_other _ _ _ _ (d 3).symm]; exact h.q3, by rw [World.cell?_setCell_other _ _ _ _ (d 4).symm]; exact h.q4,
    by rw [World.frozen?_setCell]; exact h.p0, by rw [World.frozen?_setCell]; exact h.p1, by rw [World.frozen?_setCell]; exact h.p2, by rw [World.frozen?_setCell]; exact h.p3, by rw [World.frozen?_setCell]; exact h.p4,
    h.below.setCell (by have := h.far; simp; omega) _, h.far, by have := h.size; simp; exact this⟩

theorem Stp.set2 {w wr : World} {g : Nat} {u v t : ByteArray} (h : Hid (Stp w g u v t wr)) (s : ByteArray) : Hid (Stp w g u v s (wr.setCell ⟨g, 2, none⟩ (.string s))) := by
  have h := h.out
  have d := fun j => Stp.off (j := j) (i := 2) h.far
  exact ⟨by rw [World.cell?_setCell_other _ _ _ _ (by simp)]; exact h.c0, by rw [World.cell?_setCell_other _ _ _ _ (by simp)]; exact h.c1, World.cell?_setCell_same _ _ _ h.c2,
    by rw [World.frozen?_setCell]; exact h.f0, by rw [World.frozen?_setCell]; exact h.f1, by rw [World.frozen?_setCell]; exact h.f2,
    by rw [World.cell?_setCell_other _ _ _ _ (d 0).symm]; exact h.q0, by rw [World.cell?_setCell_other _ _ _ _ (d 1).symm]; exact h.q1, by rw [World.cell?_setCell_other _ _ _ _ (d 2).symm]; exact h.q2, by rw [World.cell?_setCell_other _ _ _ _ (d 3).symm]; exact h.q3, by rw [World.cell?_setCell_other _ _ _ _ (d 4).symm]; exact h.q4,
    by rw [World.frozen?_setCell]; exact h.p0, by rw [World.frozen?_setCell]; exact h.p1, by rw [World.frozen?_setCell]; exact h.p2, by rw [World.frozen?_setCell]; exact h.p3, by rw [World.frozen?_setCell]; exact h.p4,
    h.below.setCell (by have := h.far; simp; omega) _, h.far, by have := h.size; simp; exact this⟩

/-- a call leaves it all -/
theorem Stp.call {w wr w' : World} {g : Nat} {u v t : ByteArray} (h : Hid (Stp w g u v t wr)) (hg : g < wr.heap.size) (hB : Below wr.heap.size wr w') : Hid (Stp w g u v t w') := by
  have h := h.out
  have hs := h.size
  have m : w.heap.size + 1 < wr.heap.size := by omega
  exact ⟨(hB.cell hg).trans h.c0, (hB.cell hg).trans h.c1, (hB.cell hg).trans h.c2, (hB.frozen hg).trans h.f0, (hB.frozen hg).trans h.f1, (hB.frozen hg).trans h.f2,
    (hB.cell m).trans h.q0, (hB.cell m).trans h.q1, (hB.cell m).trans h.q2, (hB.cell m).trans h.q3, (hB.cell m).trans h.q4,
    (hB.frozen m).trans h.p0, (hB.frozen m).trans h.p1, (hB.frozen m).trans h.p2, (hB.frozen m).trans h.p3, (hB.frozen m).trans h.p4,
    h.below.trans (hB.mono h.below.size), h.far, Nat.le_trans hs hB.size⟩

theorem Stp.first {w w1 : World} {o : Obj} {x y z : ByteArray} (hB : Below ((w.alloc o).alloc (.cells #[.string ⟨#[]⟩, .int .u64 0, .int .u64 0, .int .u64 0, .string ⟨#[]⟩] 43)).heap.size ((w.alloc o).alloc (.cells #[.string ⟨#[]⟩, .int .u64 0, .int .u64 0, .int .u64 0, .string ⟨#[]⟩] 43)) w1) :
    Hid (Stp w w1.heap.size x y z (w1.alloc (.cells #[.string x, .string y, .string z] 23))) := by
  have hs : w.heap.size + 2 ≤ w1.heap.size := by have := hB.size; simp at this; omega
  have n : w.heap.size + 1 < w1.heap.size := by omega
  have m : ∀ j, (⟨w.heap.size + 1, j, none⟩ : Addr).block < ((w.alloc o).alloc (.cells #[.string ⟨#[]⟩, .int .u64 0, .int .u64 0, .int .u64 0, .string ⟨#[]⟩] 43)).heap.size := by intro j; simp
  have k1 : ∀ j, (w1.alloc (.cells #[.string x, .string y, .string z] 23)).cell? ⟨w.heap.size + 1, j, none⟩ = w1.cell? ⟨w.heap.size + 1, j, none⟩ := fun j => ((Below.one w1 _).cell n)
  have k2 : ∀ j, (w1.alloc (.cells #[.string x, .string y, .string z] 23)).frozen? ⟨w.heap.size + 1, j, none⟩ = w1.frozen? ⟨w.heap.size + 1, j, none⟩ := fun j => ((Below.one w1 _).frozen n)
  refine ⟨by simp, by simp, by simp, by simp, by simp, by simp, ?_, ?_, ?_, ?_, ?_, ?_, ?_, ?_, ?_, ?_, (Mk.below2 hB).out.alloc (by omega) _, hs, by simp; omega⟩
  · rw [k1, hB.cell (m 0)]; simp
  · rw [k1, hB.cell (m 1)]; simp
  · rw [k1, hB.cell (m 2)]; simp
  · rw [k1, hB.cell (m 3)]; simp
  · rw [k1, hB.cell (m 4)]; simp
  · rw [k2, hB.frozen (m 0)]; simp
  · rw [k2, hB.frozen (m 1)]; simp
  · rw [k2, hB.frozen (m 2)]; simp
  · rw [k2, hB.frozen (m 3)]; simp
  · rw [k2, hB.frozen (m 4)]; simp

theorem Stp.done {w wr w' : World} {g : Nat} {u v t : ByteArray} {a0 a1 a2 a3 a4 : Value} (h : Hid (Stp w g u v t wr)) (hB : Below wr.heap.size wr w') :
    Below w.heap.size w (((((w'.setCell ⟨w.heap.size + 1, 0, none⟩ a0).setCell ⟨w.heap.size + 1, 1, none⟩ a1).setCell ⟨w.heap.size + 1, 2, none⟩ a2).setCell ⟨w.heap.size + 1, 3, none⟩ a3).setCell ⟨w.heap.size + 1, 4, none⟩ a4) :=
  (((((h.out.below.trans (hB.mono h.out.below.size)).setCell (by simp) _).setCell (by simp) _).setCell (by simp) _).setCell (by simp) _).setCell (by simp) _

end Go.Proofs.Qxb6605634a
