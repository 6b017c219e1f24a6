/-
  The plain law of the starts of pieces. No Go in sight.
-/
import Derived.Lib.Bytealg
import Derived.Lib.IndexLaws
namespace Go.Proofs.Qxb6601281a.Pl

/-- q is the place just behind the first line break at or behind p plus size, and a byte stands there -/
def Step (dl : List UInt8) (size p q : Nat) : Prop := p + size + 1 ≤ q ∧ q < dl.length ∧ dl[q - 1]? = some 10 ∧ ∀ t, p + size ≤ t → t < q - 1 → dl[t]? ≠ some 10

/-- the starts open with 0, and each is a step behind the one before it -/
def Chain (dl : List UInt8) (size : Nat) (r : List Nat) : Prop := r[0]? = some 0 ∧ ∀ k p q, r[k]? = some p → r[k + 1]? = some q → Step dl size p q

/-- no line break with a byte behind it is left -/
def Done (dl : List UInt8) (size l : Nat) : Prop := ∀ j, l + size ≤ j → j + 1 < dl.length → dl[j]? ≠ some 10

theorem chain_one (dl : List UInt8) (size : Nat) : Chain dl size [0] := by
  refine ⟨rfl, fun k p q hp hq => ?_⟩
  simp at hq

theorem chain_snoc {dl : List UInt8} {size : Nat} {r : List Nat} {l q : Nat} (h : Chain dl size r) (hl : r[r.length - 1]? = some l) (hs : Step dl size l q) : Chain dl size (r ++ [q]) := by
  have hpos : 0 < r.length := by
    rcases Nat.eq_zero_or_pos r.length with h0 | h0
    · rw [List.getElem?_eq_none (by omega)] at hl; cases hl
    · exact h0
  refine ⟨?_, fun k p x hp hx => ?_⟩
  · rw [List.getElem?_append_left hpos]; exact h.1
  · have hk : k + 1 < (r ++ [q]).length := by
      rcases Nat.lt_or_ge (k + 1) (r ++ [q]).length with h1 | h1
      · exact h1
      · rw [List.getElem?_eq_none h1] at hx; cases hx
    simp at hk
    by_cases hk2 : k + 1 < r.length
    · rw [List.getElem?_append_left (by omega)] at hp hx
      exact h.2 k p x hp hx
    · have e : k = r.length - 1 := by omega
      rw [List.getElem?_append_left (by omega), e, hl] at hp
      rw [List.getElem?_append_right (by omega), show k + 1 - r.length = 0 by omega] at hx
      simp at hp hx
      subst hp hx
      exact hs

theorem last_snoc (r : List Nat) (q : Nat) : (r ++ [q])[(r ++ [q]).length - 1]? = some q := by simp

/-- nothing is left where the next place lies beyond the data -/
theorem done_far {dl : List UInt8} {size l : Nat} (h : dl.length ≤ l + size) : Done dl size l := fun j h1 h2 => by omega

theorem drop_at (dl : List UInt8) (a j : Nat) (h : a ≤ j) : dl[j]? = (dl.drop a)[j - a]? := by
  rw [List.getElem?_drop]; congr 1; omega

theorem done_none {dl : List UInt8} {size l : Nat} (h : Lib.indexByte (dl.drop (l + size)) 10 = -1) : Done dl size l := fun j h1 _ => by
  rw [drop_at dl (l + size) j h1]; exact Lib.indexByte_none h _

theorem done_end {dl : List UInt8} {size l k : Nat} (h : Lib.indexByte (dl.drop (l + size)) 10 = k) (hk : dl.length ≤ l + size + k + 1) : Done dl size l := fun j h1 h2 => by
  rw [drop_at dl (l + size) j h1]; exact (Lib.indexByte_some h).2 _ (by omega)

theorem step_of {dl : List UInt8} {size l k : Nat} (h : Lib.indexByte (dl.drop (l + size)) 10 = k) (hk : l + size + k + 1 < dl.length) : Step dl size l (l + size + k + 1) := by
  obtain ⟨h1, h2⟩ := Lib.indexByte_some h
  refine ⟨by omega, hk, ?_, fun t ht1 ht2 => ?_⟩
  · rw [List.getElem?_drop] at h1; exact h1
  · rw [drop_at dl (l + size) t ht1]; exact h2 _ (by omega)

end Go.Proofs.Qxb6601281a.Pl
