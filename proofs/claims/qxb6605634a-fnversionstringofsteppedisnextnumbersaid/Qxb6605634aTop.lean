import Derived.Test.Qxb6605634aZnext
import Derived.Test.Qxb6605634aSizes
namespace Go.Proofs.Qxb6605634a
open Go.RowKit Go.Proofs.Qxb6605634a.Pl

/-- the function says yes and leaves all memory below as it was -/
def Tp.Post (w : World) (e : Ending) (w' : World) : Prop := e = .returned (.bool true) ∧ Below w.heap.size w w'

/-- the boxed number lies in the first block above w -/
structure Bx (w : World) (x y z : ByteArray) (wr : World) : Prop where
  b0 : wr.cell? ⟨w.heap.size, 0, none⟩ = some (.string x)
  b1 : wr.cell? ⟨w.heap.size, 1, none⟩ = some (.string y)
  b2 : wr.cell? ⟨w.heap.size, 2, none⟩ = some (.string z)
  below : Below w.heap.size w wr
  size : w.heap.size + 1 ≤ wr.heap.size

theorem Bx.first {w w1 : World} {x y z : ByteArray} (hB : Below (w.alloc (.cells #[.string x, .string y, .string z] 23)).heap.size (w.alloc (.cells #[.string x, .string y, .string z] 23)) w1) : Hid (Bx w x y z w1) := by
  have hs : w.heap.size + 1 ≤ w1.heap.size := by have := hB.size; simp at this; exact this
  refine ⟨?_, ?_, ?_, (Below.one w _).trans (hB.mono (by simp)), hs⟩
  · rw [hB.cell (by simp)]; simp
  · rw [hB.cell (by simp)]; simp
  · rw [hB.cell (by simp)]; simp

theorem Bx.call {w wr w' : World} {x y z : ByteArray} (h : Hid (Bx w x y z wr)) (hB : Below wr.heap.size wr w') : Hid (Bx w x y z w') := by
  have h := h.out
  have hs := h.size
  have m : w.heap.size < wr.heap.size := by omega
  exact ⟨(hB.cell m).trans h.b0, (hB.cell m).trans h.b1, (hB.cell m).trans h.b2, h.below.trans (hB.mono h.below.size), Nat.le_trans hs hB.size⟩

theorem Bx.last {w wr : World} {x y z : ByteArray} (h : Hid (Bx w x y z wr)) (o : Obj) : Below w.heap.size w (wr.alloc o) := h.out.below.alloc (by have := h.out.size; omega) _

theorem incB_le (s : ByteArray) (h : s.size ≤ 1048576) : (incB s).size ≤ 2097152 := by have := incB_size s; omega

theorem Nx.sizes {i : Int} {x y z u v t : ByteArray} (h : Nx i x y z u v t) (hx : x.size ≤ 1048576) (hy : y.size ≤ 1048576) (hz : z.size ≤ 1048576) : u.size ≤ 2097152 ∧ v.size ≤ 2097152 ∧ t.size ≤ 2097152 := by
  rcases h with ⟨rfl, rfl, rfl, rfl⟩ | ⟨rfl, rfl, rfl, rfl⟩ | ⟨rfl, rfl, rfl, rfl⟩
  · exact ⟨incB_le x hx, zero_size, zero_size⟩
  · exact ⟨by omega, incB_le y hy, zero_size⟩
  · exact ⟨by omega, by omega, incB_le z hz⟩

set_option maxRecDepth 100000 in
set_option maxHeartbeats 1000000 in
theorem Tp.walk (x y z p : ByteArray) (i : Int) (w : World) : Calls Try.prog 8 #[Arr x y z, .string p, .int .i64 i] w fun e w' => Tp.Post w e w' := by
  go_enter Try.func8, Try.ntmps8
  go_wp2_with fail
  refine (Sz.zz x y z p i _).mono ?_
  rintro e w1 ⟨r, rfl, hr, hB⟩
  have B1 := Bx.first hB
  clear hB
  cases r
  · go_wp2_with fail
    go_ret
    exact ⟨rfl, B1.out.below⟩
  obtain ⟨hx, hy, hz, hp⟩ := hr rfl
  clear hr
  have b0 := B1.out.b0
  have b1 := B1.out.b1
  have b2 := B1.out.b2
  go_wp2_with fail
  refine (Sz.bytes x y z p _ hx hy hz hp).mono ?_
  rintro e w2 ⟨n, rfl, hn, hB⟩
  have B2 := Bx.call B1 hB
  clear hB b0 b1 b2 B1
  by_cases hn1 : (1048576 : Int) < n
  · go_wp2_with fail
    go_ret
    exact ⟨rfl, B2.out.below⟩
  by_cases hi0 : i < 0
  · go_wp2_with fail
    go_ret
    exact ⟨rfl, B2.out.below⟩
  by_cases hi2 : 2 < i
  · go_wp2_with fail
    go_ret
    exact ⟨rfl, B2.out.below⟩
  have b0 := B2.out.b0
  have b1 := B2.out.b1
  have b2 := B2.out.b2
  go_wp2_with fail
  refine (Sz.valid x y z p _ hx hy hz hp).mono ?_
  rintro e w3 ⟨r, rfl, hr, hB⟩
  have B3 := Bx.call B2 hB
  clear hB b0 b1 b2 B2
  cases r
  · go_wp2_with fail
    go_ret
    exact ⟨rfl, B3.out.below⟩
  obtain ⟨dx, dy, dz, dp⟩ := hr rfl
  clear hr
  obtain ⟨u, v, t, hN⟩ := Nx.some x y z (by omega : 0 ≤ i) (by omega : i ≤ 2)
  have HN : Hid (Nx i x y z u v t) := hN
  have DX : Hid (Digits (B x)) := dx
  have DY : Hid (Digits (B y)) := dy
  have DZ : Hid (Digits (B z)) := dz
  have DP : Hid (Ascii (B p)) := dp
  clear hN dx dy dz dp
  have b0 := B3.out.b0
  have b1 := B3.out.b1
  have b2 := B3.out.b2
  go_wp2_with fail
  refine (Mk.zz x y z p _ (by omega) (by omega) (by omega) (by omega)).mono ?_
  rintro e w4 ⟨a, b, c, rfl, hB⟩
  have B4 := Bx.call B3 hB
  clear hB b0 b1 b2 B3
  obtain ⟨F, hF⟩ : ∃ F, F = full x y z p := ⟨_, rfl⟩
  rw [← hF]
  have HF : Hid (F = full x y z p) := hF
  clear hF
  go_wp2_with fail
  refine (Sp.zz F x y z p u v t a b c i _ hx hy hz hp HF DX DY DZ DP HN).mono ?_
  rintro e w5 ⟨a', b', c', p', rfl, hB⟩
  have B5 := Bx.call B4 hB
  clear hB B4
  obtain ⟨J, hJ⟩ : ∃ J, J = join3 u v t := ⟨_, rfl⟩
  rw [← hJ]
  have HJ : Hid (J = join3 u v t) := hJ
  clear hJ
  go_wp2_with fail
  refine (St.string J p' a' b' c' _).mono ?_
  rintro e w6 ⟨rfl, hB⟩
  have B6 := Bx.call B5 hB
  clear hB B5
  have b0 := B6.out.b0
  have b1 := B6.out.b1
  have b2 := B6.out.b2
  go_wp2_with fail
  refine (Zn.walk x y z u v t i _ hx hy hz DX DY DZ HN).mono ?_
  rintro e w7 ⟨rfl, hB⟩
  have B7 := Bx.call B6 hB
  clear hB b0 b1 b2 B6
  have hJ := HJ.out
  unfold join3 at hJ
  obtain ⟨hu, hv, ht⟩ := HN.out.sizes hx hy hz
  go_wp2
  go_ret
  exact ⟨by simp, Bx.last B7 _⟩

end Go.Proofs.Qxb6605634a
