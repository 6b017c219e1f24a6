/-
  The plain law of one more: no Go in sight.
-/
import Derived.Lib.Bytealg
import Derived.Lib.IndexLaws
import Derived.Lib.IndexAny
namespace Go.Proofs.Qxb6605634a.Pl

abbrev B (s : ByteArray) : List UInt8 := s.data.toList

/-- a text of bytes -/
def Str (l : List UInt8) : ByteArray := ⟨l.toArray⟩
theorem Str_B (l : List UInt8) : B (Str l) = l := by simp [Str, B]
theorem Str_of (s : ByteArray) : Str (B s) = s := by simp [Str, B]
theorem Str_size (l : List UInt8) : (Str l).size = l.length := by simp [Str, ByteArray.size]
theorem B_length (s : ByteArray) : (B s).length = s.size := by simp [B]
theorem B_inj {x y : ByteArray} (h : B x = B y) : x = y := by rw [← Str_of x, ← Str_of y, h]

/-- the number of nines at the end -/
def tn (l : List UInt8) : Nat := (l.reverse.takeWhile (· == 57)).length

/-- t is that number -/
def Nines (l : List UInt8) (t : Nat) : Prop := t ≤ l.length ∧ (∀ j, j < t → l[l.length - 1 - j]? = some 57) ∧ (t < l.length → l[l.length - 1 - t]? ≠ some 57)

theorem takeWhile_len : ∀ (r : List UInt8) (t : Nat), t ≤ r.length → (∀ j, j < t → r[j]? = some 57) → (t < r.length → r[t]? ≠ some 57) → (r.takeWhile (· == 57)).length = t
  | [], t, h, _, _ => by simp at h; simp [h]
  | x :: r, 0, _, _, h3 => by
    have := h3 (by simp)
    simp at this
    simp [this]
  | x :: r, t + 1, h1, h2, h3 => by
    have hx := h2 0 (by omega)
    simp at hx
    have ih := takeWhile_len r t (by simpa using h1) (fun j hj => by simpa using h2 (j + 1) (by omega)) (fun hj => by simpa using h3 (by simpa using hj))
    simp [hx, ih]

theorem tn_of {l : List UInt8} {t : Nat} (h : Nines l t) : tn l = t := by
  obtain ⟨h1, h2, h3⟩ := h
  refine takeWhile_len l.reverse t (by simpa using h1) (fun j hj => ?_) (fun hj => ?_)
  · rw [List.getElem?_reverse (by omega)]; exact h2 j hj
  · have hj' : t < l.length := by simpa using hj
    rw [List.getElem?_reverse hj']; exact h3 hj'

/-- one more, by the number of nines at the end -/
def inc (l : List UInt8) (t : Nat) : List UInt8 :=
  if t = l.length then 49 :: List.replicate t 48 else l.take (l.length - t - 1) ++ ((l.getD (l.length - t - 1) 0 + 1) :: List.replicate t 48)

/-- one more -/
def incB (s : ByteArray) : ByteArray := Str (inc (B s) (tn (B s)))

theorem inc_len (l : List UInt8) (t : Nat) (h : t ≤ l.length) : (inc l t).length ≤ l.length + 1 := by
  unfold inc
  split
  · simp; omega
  · simp; omega

theorem takeWhile_le : ∀ r : List UInt8, (r.takeWhile (· == 57)).length ≤ r.length
  | [] => by simp
  | x :: r => by
    have := takeWhile_le r
    rw [List.takeWhile_cons]
    split <;> simp <;> omega

theorem incB_size (s : ByteArray) : (incB s).size ≤ s.size + 1 := by
  unfold incB
  rw [Str_size]
  have h1 : tn (B s) ≤ (B s).length := by
    have := takeWhile_le (B s).reverse
    unfold tn
    simpa using this
  have := inc_len (B s) (tn (B s)) h1
  rw [B_length] at this
  exact this

/-- all bytes are decimal digits -/
def Digits (l : List UInt8) : Prop := ∀ b ∈ l, 48 ≤ b.toNat ∧ b.toNat ≤ 57
/-- all bytes are below 128 -/
def Ascii (l : List UInt8) : Prop := ∀ b ∈ l, b.toNat < 128

theorem Digits.ascii {l : List UInt8} (h : Digits l) : Ascii l := fun b hb => by have := h b hb; omega

theorem digit_inc {b : UInt8} (h : b.toNat < 57) : (b + 1).toNat = b.toNat + 1 := by
  rw [UInt8.toNat_add]; simp; omega

end Go.Proofs.Qxb6605634a.Pl
