import Derived.Test.Qxb6605634aInc
namespace Go.Proofs.Qxb6605634a
open Go.RowKit Go.Proofs.Qxb6605634a.Pl

theorem Ct.first {l : List UInt8} {c : UInt8} {k : Nat} (h : l[k]? = some c) (hn : ∀ j, j < k → l[j]? ≠ some c) : Lib.indexByte l c = k := by
  have hg := Lib.indexByte_ge l c
  by_cases h1 : Lib.indexByte l c = -1
  · exact absurd h (Lib.indexByte_none h1 k)
  · obtain ⟨o, ho⟩ : ∃ o : Nat, Lib.indexByte l c = o := ⟨(Lib.indexByte l c).toNat, by omega⟩
    obtain ⟨h2, h3⟩ := Lib.indexByte_some ho
    rcases Nat.lt_trichotomy o k with hlt | heq | hgt
    · exact absurd h2 (hn o hlt)
    · rw [ho, heq]
    · exact absurd h (h3 k hgt)

/-- s is x, a dot and y; x holds no dot -/
def Ct.Is (s x y : ByteArray) : Prop := B s = B x ++ 46 :: B y ∧ ∀ b ∈ B x, b ≠ 46

theorem Ct.index {s x y : ByteArray} (h : Ct.Is s x y) : Lib.indexByte (B s) 46 = (x.size : Nat) := by
  obtain ⟨h1, h2⟩ := h
  rw [h1]
  refine Ct.first ?_ fun j hj => ?_
  · rw [List.getElem?_append_right (by rw [B_length]; omega), B_length, Nat.sub_self]; rfl
  · have hj' : j < (B x).length := by rw [B_length]; exact hj
    rw [List.getElem?_append_left hj', List.getElem?_eq_getElem hj']
    intro e
    exact h2 _ (List.getElem_mem _) (Option.some.inj e)

theorem Ct.size {s x y : ByteArray} (h : Ct.Is s x y) : s.size = x.size + y.size + 1 := by
  have := congrArg List.length h.1
  simp only [List.length_append, List.length_cons, B_length] at this
  omega

theorem Ct.left {s x y : ByteArray} (h : Ct.Is s x y) : s.extract 0 x.size = x := by
  apply B_inj
  have e : B (s.extract 0 x.size) = ((B s).drop 0).take (x.size - 0) := Lib.extract_data s 0 x.size
  rw [e, h.1, List.drop_zero, Nat.sub_zero, ← B_length, List.take_left]

theorem Ct.right {s x y : ByteArray} (h : Ct.Is s x y) : s.extract (x.size + 1) s.size = y := by
  apply B_inj
  have e : B (s.extract (x.size + 1) s.size) = ((B s).drop (x.size + 1)).take (s.size - (x.size + 1)) := Lib.extract_data s _ _
  rw [e, List.take_of_length_le (by rw [List.length_drop, B_length]; omega), h.1, ← B_length, List.drop_append, List.drop_of_length_le (by omega)]
  simp

set_option maxHeartbeats 400000 in
theorem Ct.slite (s x y : ByteArray) (w : World) (hs : s.size ≤ 8388608) (h : Hid (Ct.Is s x y)) :
    Calls Try.prog 90 #[.string s, .string ⟨#[46]⟩] w fun e w' => e = .returned (.tuple #[.string x, .string y, .bool true]) ∧ ∃ q, w' = w.drewN q := by
  have hz := Ct.size h.out
  go_enter Try.func90, Try.ntmps90
  go_wp2_with fail
  refine (Try.stringslite_Index_one s 46 w).mono ?_
  rintro e w1 ⟨rfl, hw⟩
  obtain rfl := hw.symm
  rw [Ct.index h.out]
  have HZ : Hid (s.size = x.size + y.size + 1) := hz
  have hxs : x.size + 1 ≤ s.size := by omega
  clear hz hw
  go_wp2
  go_quiet (fail)
  go_wp2
  go_ret3
  exact ⟨by rw [Ct.left h.out, Ct.right h.out]; rfl, nq, rfl⟩

set_option maxHeartbeats 400000 in
theorem Ct.cut (s x y : ByteArray) (w : World) (hs : s.size ≤ 8388608) (h : Hid (Ct.Is s x y)) :
    Calls Try.prog 78 #[.string s, .string ⟨#[46]⟩] w fun e w' => e = .returned (.tuple #[.string x, .string y, .bool true]) ∧ ∃ q, w' = w.drewN q := by
  go_enter Try.func78, Try.ntmps78
  go_wp2_with fail
  refine (Ct.slite s x y w hs h).mono ?_
  rintro e w1 ⟨rfl, q, rfl⟩
  go_wp2
  go_ret3
  exact ⟨rfl, q, rfl⟩

/-- the text of three numbers -/
def join3 (x y z : ByteArray) : ByteArray := x ++ ⟨#[46]⟩ ++ y ++ ⟨#[46]⟩ ++ z

theorem join3_B (x y z : ByteArray) : B (join3 x y z) = B x ++ 46 :: (B y ++ 46 :: B z) := by
  unfold join3 B
  simp [ByteArray.data_append]

theorem join3_size (x y z : ByteArray) : (join3 x y z).size = x.size + y.size + z.size + 2 := by
  have := congrArg List.length (join3_B x y z)
  simp only [List.length_append, List.length_cons, B_length] at this
  omega

/-- the whole text of a version -/
def full (x y z p : ByteArray) : ByteArray := if p.toList.isEmpty then join3 x y z else join3 x y z ++ (⟨#[45]⟩ ++ p)

theorem Ct.no_any {x y z : ByteArray} (hx : Digits (B x)) (hy : Digits (B y)) (hz : Digits (B z)) : ∀ b ∈ B (join3 x y z), ([45, 43] : List UInt8).contains b = false := by
  intro b hb
  rw [join3_B] at hb
  have key : ∀ c : UInt8, (46 ≤ c.toNat) → ([45, 43] : List UInt8).contains c = false := by
    intro c hc
    simp only [List.contains_cons, List.contains_nil, Bool.or_false, Bool.or_eq_false_iff, beq_eq_false_iff_ne]
    constructor
    · intro e; subst e; simp at hc
    · intro e; subst e; simp at hc
  simp only [List.mem_append, List.mem_cons] at hb
  rcases hb with h | h | h | h | h
  · exact key b (by have := hx b h; omega)
  · subst h; decide
  · exact key b (by have := hy b h; omega)
  · subst h; decide
  · exact key b (by have := hz b h; omega)

theorem Ct.any_none {l : List UInt8} (h : ∀ b ∈ l, ([45, 43] : List UInt8).contains b = false) : Lib.indexAny l [45, 43] = -1 :=
  Lib.indexAny_none (fun _ b _ hb => h b (List.mem_of_getElem? hb))

theorem Ct.any_dash {l r : List UInt8} (h : ∀ b ∈ l, ([45, 43] : List UInt8).contains b = false) : Lib.indexAny (l ++ 45 :: r) [45, 43] = (l.length : Nat) := by
  refine Lib.indexAny_hit (i := l.length) (x := 45) (fun j b hj hb => ?_) ?_ (by decide)
  · rw [List.getElem?_append_left hj] at hb
    exact h b (List.mem_of_getElem? hb)
  · rw [List.getElem?_append_right (Nat.le_refl _), Nat.sub_self]; rfl

end Go.Proofs.Qxb6605634a
