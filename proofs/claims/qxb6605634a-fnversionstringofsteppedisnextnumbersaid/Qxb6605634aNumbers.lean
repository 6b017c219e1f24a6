import Derived.Test.Qxb6605634aMake
namespace Go.Proofs.Qxb6605634a
open Go.RowKit Go.Proofs.Qxb6605634a.Pl

/-- the text after the first number -/
def rest2 (y z : ByteArray) : ByteArray := Str (B y ++ 46 :: B z)

theorem rest2_size (y z : ByteArray) : (rest2 y z).size = y.size + z.size + 1 := by
  unfold rest2
  rw [Str_size]
  simp only [List.length_append, List.length_cons, B_length]
  omega

theorem Nu.nodot {l : List UInt8} (h : Digits l) : ∀ b ∈ l, b ≠ 46 := by
  intro b hb e
  have := h b hb
  subst e
  simp at this

theorem Nu.is1 {x y z : ByteArray} (hx : Digits (B x)) : Hid (Ct.Is (join3 x y z) x (rest2 y z)) :=
  ⟨by rw [join3_B, rest2, Str_B], Nu.nodot hx⟩
theorem Nu.is2 {y z : ByteArray} (hy : Digits (B y)) : Hid (Ct.Is (rest2 y z) y z) := ⟨by rw [rest2, Str_B], Nu.nodot hy⟩

theorem full_bare {x y z p : ByteArray} (h : p.toList.isEmpty = true) : full x y z p = join3 x y z := by unfold full; rw [if_pos h]
theorem full_dash {x y z p : ByteArray} (h : p.toList.isEmpty = false) : full x y z p = join3 x y z ++ (⟨#[45]⟩ ++ p) := by unfold full; rw [h]; rfl

theorem full_B {x y z p : ByteArray} (h : p.toList.isEmpty = false) : B (full x y z p) = B (join3 x y z) ++ 45 :: B p := by
  rw [full_dash h]; unfold B; simp [ByteArray.data_append]

theorem full_size (x y z p : ByteArray) : (join3 x y z).size ≤ (full x y z p).size ∧ (full x y z p).size ≤ (join3 x y z).size + p.size + 1 := by
  cases h : p.toList.isEmpty
  · have := congrArg List.length (full_B (x := x) (y := y) (z := z) h)
    simp only [List.length_append, List.length_cons, B_length] at this
    omega
  · rw [full_bare h]; omega

theorem full_take {x y z p : ByteArray} (h : p.toList.isEmpty = false) : (full x y z p).extract 0 (join3 x y z).size = join3 x y z := by
  apply B_inj
  have e : B ((full x y z p).extract 0 (join3 x y z).size) = ((B (full x y z p)).drop 0).take ((join3 x y z).size - 0) := Lib.extract_data _ 0 _
  rw [e, full_B h, List.drop_zero, Nat.sub_zero, ← B_length, List.take_left]

theorem join3_ascii {x y z : ByteArray} (hx : Digits (B x)) (hy : Digits (B y)) (hz : Digits (B z)) : Ascii (B (join3 x y z)) := by
  intro b hb
  rw [join3_B] at hb
  simp only [List.mem_append, List.mem_cons] at hb
  rcases hb with h | h | h | h | h
  · exact hx.ascii b h
  · subst h; decide
  · exact hy.ascii b h
  · subst h; decide
  · exact hz.ascii b h

theorem full_ascii {x y z p : ByteArray} (hx : Digits (B x)) (hy : Digits (B y)) (hz : Digits (B z)) (hp : Ascii (B p)) : Ascii (B (full x y z p)) := by
  intro b hb
  cases h : p.toList.isEmpty
  · rw [full_B h] at hb
    simp only [List.mem_append, List.mem_cons] at hb
    rcases hb with h | h | h
    · exact join3_ascii hx hy hz b h
    · subst h; decide
    · exact hp b h
  · rw [full_bare h] at hb
    exact join3_ascii hx hy hz b hb

/-- three numbers come back -/
def Nu.Post (w : World) (x y z : ByteArray) (e : Ending) (w' : World) : Prop := e = .returned (Arr x y z) ∧ Below w.heap.size w w'

theorem Nu.drawn {k : Nat} {a w : World} (h : Below k a w) (q : Nat) : Below k a (w.drewN q) := ⟨h.os, h.tape, h.output, h.size, h.block⟩

theorem Nu.close {w w1 : World} {q : Nat} {a b c : Value} (h : Hid (Below w.heap.size w w1)) :
    Below w.heap.size w ((((w1.drewN q).setCell ⟨w.heap.size + 1, 0, none⟩ a).setCell ⟨w.heap.size + 1, 1, none⟩ b).setCell ⟨w.heap.size + 1, 2, none⟩ c) :=
  (((Nu.drawn h.out q).setCell (by simp) _).setCell (by simp) _).setCell (by simp) _

set_option maxHeartbeats 1000000 in
theorem Nu.bare (T x y z p : ByteArray) (a b c : Int) (w : World) (hx : x.size ≤ 1048576) (hy : y.size ≤ 1048576) (hz : z.size ≤ 1048576) (hT : Hid (T = join3 x y z))
    (dx : Hid (Digits (B x))) (dy : Hid (Digits (B y))) (dz : Hid (Digits (B z))) :
    Calls Try.prog 67 #[Ver T a b c p] w fun e w' => Nu.Post w x y z e w' := by
  have hTs : Hid (T.size ≤ 8388608) := by have := join3_size x y z; rw [hT.out]; show _ ≤ _; omega
  have hAs : Hid (Ascii (B T)) := by rw [hT.out]; exact join3_ascii dx.out dy.out dz.out
  have hI1 : Hid (Ct.Is T x (rest2 y z)) := by rw [hT.out]; exact Nu.is1 dx.out
  have hI2 : Hid (Ct.Is (rest2 y z) y z) := Nu.is2 dy.out
  have hix : Hid (Lib.indexAny T.data.toList [45, 43] = -1) := by rw [hT.out]; exact Ct.any_none (Ct.no_any dx.out dy.out dz.out)
  have hRs : Hid ((rest2 y z).size ≤ 8388608) := by have := rest2_size y z; show _ ≤ _; omega
  obtain ⟨R, hR⟩ : ∃ R, R = rest2 y z := ⟨_, rfl⟩
  rw [← hR] at hI1 hI2 hRs
  clear hR
  go_enter Try.func67, Try.ntmps67
  go_wp2_with fail
  refine (Try.strings_IndexAny_laid T ⟨#[45, 43]⟩ _ (by have := hTs.out; omega) (by decide) (fun j b hb => hAs.out b (List.mem_of_getElem? hb)) (fun j b hb => by have hm := List.mem_of_getElem? hb; simp at hm; rcases hm with rfl | rfl <;> decide)).mono ?_
  rintro e w1 ⟨rfl, hB⟩
  rw [show Lib.indexAny T.data.toList (ByteArray.mk #[45, 43]).data.toList = -1 from hix.out]
  have q0 := hB.cell (p := ⟨w.heap.size + 1, 0, none⟩) (by simp)
  have q1 := hB.cell (p := ⟨w.heap.size + 1, 1, none⟩) (by simp)
  have q2 := hB.cell (p := ⟨w.heap.size + 1, 2, none⟩) (by simp)
  have f0 := hB.frozen (p := ⟨w.heap.size + 1, 0, none⟩) (by simp)
  have f1 := hB.frozen (p := ⟨w.heap.size + 1, 1, none⟩) (by simp)
  have f2 := hB.frozen (p := ⟨w.heap.size + 1, 2, none⟩) (by simp)
  have HB : Hid (Below w.heap.size w w1) := Mk.below2 hB
  simp at q0 q1 q2 f0 f1 f2
  clear hB
  go_wp2_with fail
  refine (Ct.cut T x R _ hTs.out hI1).mono ?_
  rintro e w2 ⟨rfl, q, rfl⟩
  go_wp2_with fail
  refine (Ct.cut R y z _ hRs.out hI2).mono ?_
  rintro e w3 ⟨rfl, r, rfl⟩
  go_wp2
  refine bodyPost_ret (v := Arr x y z) (by simp [results, Try.results67, go_sem, q0, q1, q2]) rfl ⟨rfl, Nu.close HB⟩

set_option maxHeartbeats 1000000 in
theorem Nu.dashed (T x y z p : ByteArray) (a b c : Int) (w : World) (hx : x.size ≤ 1048576) (hy : y.size ≤ 1048576) (hz : z.size ≤ 1048576) (hp : p.size ≤ 1048576) (he : Hid (p.toList.isEmpty = false)) (hT : Hid (T = full x y z p))
    (dx : Hid (Digits (B x))) (dy : Hid (Digits (B y))) (dz : Hid (Digits (B z))) (dp : Hid (Ascii (B p))) :
    Calls Try.prog 67 #[Ver T a b c p] w fun e w' => Nu.Post w x y z e w' := by
  have hTs : Hid (T.size ≤ 8388608) := by have := join3_size x y z; have := full_size x y z p; rw [hT.out]; show _ ≤ _; omega
  have hAs : Hid (Ascii (B T)) := by rw [hT.out]; exact full_ascii dx.out dy.out dz.out dp.out
  have hI1 : Hid (Ct.Is (join3 x y z) x (rest2 y z)) := Nu.is1 dx.out
  have hI2 : Hid (Ct.Is (rest2 y z) y z) := Nu.is2 dy.out
  have hix : Hid (Lib.indexAny T.data.toList [45, 43] = ((join3 x y z).size : Nat)) := by
    have e := Ct.any_dash (r := B p) (Ct.no_any dx.out dy.out dz.out)
    rw [B_length, ← full_B he.out, ← hT.out] at e
    exact e
  have hcut : Hid (T.extract 0 (join3 x y z).size = join3 x y z) := by rw [hT.out]; exact full_take he.out
  have hJs : Hid ((join3 x y z).size ≤ 8388608) := by have := join3_size x y z; show _ ≤ _; omega
  have hJT : (join3 x y z).size ≤ T.size := by have := full_size x y z p; rw [hT.out]; exact this.1
  have hRs : Hid ((rest2 y z).size ≤ 8388608) := by have := rest2_size y z; show _ ≤ _; omega
  obtain ⟨J, hJ⟩ : ∃ J, J = join3 x y z := ⟨_, rfl⟩
  rw [← hJ] at hI1 hix hcut hJs hJT
  clear hJ
  obtain ⟨R, hR⟩ : ∃ R, R = rest2 y z := ⟨_, rfl⟩
  rw [← hR] at hI1 hI2 hRs
  clear hR
  go_enter Try.func67, Try.ntmps67
  go_wp2_with fail
  refine (Try.strings_IndexAny_laid T ⟨#[45, 43]⟩ _ (by have := hTs.out; omega) (by decide) (fun j b hb => hAs.out b (List.mem_of_getElem? hb)) (fun j b hb => by have hm := List.mem_of_getElem? hb; simp at hm; rcases hm with rfl | rfl <;> decide)).mono ?_
  rintro e w1 ⟨rfl, hB⟩
  rw [show Lib.indexAny T.data.toList (ByteArray.mk #[45, 43]).data.toList = (J.size : Nat) from hix.out]
  have q0 := hB.cell (p := ⟨w.heap.size + 1, 0, none⟩) (by simp)
  have q1 := hB.cell (p := ⟨w.heap.size + 1, 1, none⟩) (by simp)
  have q2 := hB.cell (p := ⟨w.heap.size + 1, 2, none⟩) (by simp)
  have f0 := hB.frozen (p := ⟨w.heap.size + 1, 0, none⟩) (by simp)
  have f1 := hB.frozen (p := ⟨w.heap.size + 1, 1, none⟩) (by simp)
  have f2 := hB.frozen (p := ⟨w.heap.size + 1, 2, none⟩) (by simp)
  have HB : Hid (Below w.heap.size w w1) := Mk.below2 hB
  simp at q0 q1 q2 f0 f1 f2
  clear hB
  go_wp2_with fail
  rw [hcut.out]
  refine (Ct.cut J x R _ hJs.out hI1).mono ?_
  rintro e w2 ⟨rfl, q, rfl⟩
  go_wp2_with fail
  refine (Ct.cut R y z _ hRs.out hI2).mono ?_
  rintro e w3 ⟨rfl, r, rfl⟩
  go_wp2
  refine bodyPost_ret (v := Arr x y z) (by simp [results, Try.results67, go_sem, q0, q1, q2]) rfl ⟨rfl, Nu.close HB⟩

/-- the three numbers of a version's text -/
theorem Nu.walk (T x y z p : ByteArray) (a b c : Int) (w : World) (hx : x.size ≤ 1048576) (hy : y.size ≤ 1048576) (hz : z.size ≤ 1048576) (hp : p.size ≤ 1048576) (hT : Hid (T = full x y z p))
    (dx : Hid (Digits (B x))) (dy : Hid (Digits (B y))) (dz : Hid (Digits (B z))) (dp : Hid (Ascii (B p))) :
    Calls Try.prog 67 #[Ver T a b c p] w fun e w' => Nu.Post w x y z e w' := by
  cases h : p.toList.isEmpty
  · exact Nu.dashed T x y z p a b c w hx hy hz hp h hT dx dy dz dp
  · exact Nu.bare T x y z p a b c w hx hy hz (by rw [full_bare h] at hT; exact hT) dx dy dz

end Go.Proofs.Qxb6605634a
