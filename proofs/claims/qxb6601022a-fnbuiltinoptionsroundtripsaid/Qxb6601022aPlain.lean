/-
  The plain law of options: how they are written as words. No Go in sight.
-/
import Derived.Lib.Bytealg
import Derived.Lib.IndexLaws
namespace Go.Proofs.Qxb6601022a.Pl

/-- one option -/
structure Opt where
  l : UInt8
  v : ByteArray
  nw : Bool
  att : Bool

abbrev B (s : ByteArray) : List UInt8 := s.data.toList

/-- c is a letter of the specification -/
def known (s : List UInt8) (c : UInt8) : Bool := c != 58 && decide (0 ≤ Lib.indexByte s c)

/-- c is a letter and takes a value -/
def takes (s : List UInt8) (c : UInt8) : Bool := known s c && s[(Lib.indexByte s c).toNat + 1]? == some 58

/-- the value goes inside the word -/
def inside (o : Opt) : Bool := o.att && !(B o.v).isEmpty

/-- the rest of the word that the option o stands in, and the words behind it -/
def letter (s : List UInt8) : List Opt → Opt → List UInt8 × List (List UInt8)
  | [], o => if takes s o.l then (if inside o then (o.l :: B o.v, []) else ([o.l], [B o.v])) else ([o.l], [])
  | p :: os, o =>
    if takes s o.l then (if inside o then (o.l :: B o.v, (45 :: (letter s os p).1) :: (letter s os p).2) else ([o.l], B o.v :: (45 :: (letter s os p).1) :: (letter s os p).2))
    else if p.nw then ([o.l], (45 :: (letter s os p).1) :: (letter s os p).2) else (o.l :: (letter s os p).1, (letter s os p).2)

/-- the words of options, none being open -/
def closed (s : List UInt8) : List Opt → List (List UInt8)
  | [] => []
  | o :: os => (45 :: (letter s os o).1) :: (letter s os o).2

/-- the rest of an open word, and the words behind it -/
def cont (s : List UInt8) : List Opt → List UInt8 × List (List UInt8)
  | [] => ([], [])
  | o :: os => if o.nw then ([], closed s (o :: os)) else letter s os o

theorem letter_takes_in {s : List UInt8} {os : List Opt} {o : Opt} (h : takes s o.l = true) (hi : inside o = true) : letter s os o = (o.l :: B o.v, closed s os) := by
  cases os <;> simp [letter, closed, h, hi]

theorem letter_takes_out {s : List UInt8} {os : List Opt} {o : Opt} (h : takes s o.l = true) (hi : inside o = false) : letter s os o = ([o.l], B o.v :: closed s os) := by
  cases os <;> simp [letter, closed, h, hi]

theorem letter_bare {s : List UInt8} {os : List Opt} {o : Opt} (h : takes s o.l = false) : letter s os o = (o.l :: (cont s os).1, (cont s os).2) := by
  cases os with
  | nil => simp [letter, cont, h]
  | cons p os =>
    cases hp : p.nw <;> simp [letter, cont, closed, h, hp]

theorem letter_ne {s : List UInt8} {os : List Opt} {o : Opt} : ∃ x, (letter s os o).1 = o.l :: x := by
  cases h : takes s o.l
  · exact ⟨_, by rw [letter_bare h]⟩
  · cases hi : inside o
    · exact ⟨_, by rw [letter_takes_out h hi]⟩
    · exact ⟨_, by rw [letter_takes_in h hi]⟩

theorem cont_nil {s : List UInt8} {os : List Opt} (h : (cont s os).1 = []) : (cont s os).2 = closed s os := by
  cases os with
  | nil => rfl
  | cons o os =>
    cases hp : o.nw
    · obtain ⟨x, hx⟩ := letter_ne (s := s) (os := os) (o := o)
      simp [cont, hp, hx] at h
    · simp [cont, hp]

theorem cont_cons {s : List UInt8} {os : List Opt} {c : UInt8} {x : List UInt8} (h : (cont s os).1 = c :: x) : ∃ o os', os = o :: os' ∧ c = o.l ∧ cont s os = letter s os' o := by
  cases os with
  | nil => simp [cont] at h
  | cons o os =>
    cases hp : o.nw
    · obtain ⟨y, hy⟩ := letter_ne (s := s) (os := os) (o := o)
      have e : cont s (o :: os) = letter s os o := by simp [cont, hp]
      rw [e, hy] at h
      exact ⟨o, os, rfl, by injection h with h1 _; exact h1.symm, e⟩
    · simp [cont, hp] at h

/-- the bytes of all words, and their number -/
def bytesOf (ws : List (List UInt8)) : Nat := (ws.map List.length).sum

def valBytes (os : List Opt) : Nat := (os.map fun o => o.v.size).sum

theorem bytesOf_append (a b : List (List UInt8)) : bytesOf (a ++ b) = bytesOf a + bytesOf b := by simp [bytesOf]
theorem bytesOf_cons (a : List UInt8) (b : List (List UInt8)) : bytesOf (a :: b) = a.length + bytesOf b := by simp [bytesOf]
theorem B_length (s : ByteArray) : (B s).length = s.size := by simp [B]

theorem letter_size (s : List UInt8) : ∀ (os : List Opt) (o : Opt), (letter s os o).1.length + bytesOf (letter s os o).2 ≤ 2 * (os.length + 1) + valBytes (o :: os) ∧ (letter s os o).2.length ≤ 2 * os.length + 1
  | [], o => by
    have := B_length o.v
    cases h : takes s o.l <;> cases hi : inside o <;> simp [letter, h, hi, bytesOf, valBytes] <;> omega
  | p :: os, o => by
    have ih := letter_size s os p
    have := B_length o.v
    cases h : takes s o.l <;> cases hi : inside o <;> cases hp : p.nw <;> simp [letter, h, hi, hp, bytesOf_cons, valBytes] at ih ⊢ <;> omega

theorem closed_size (s : List UInt8) (os : List Opt) : bytesOf (closed s os) ≤ 2 * os.length + valBytes os + os.length ∧ (closed s os).length ≤ 2 * os.length := by
  cases os with
  | nil => simp [closed, bytesOf]
  | cons o os =>
    have := letter_size s os o
    simp [closed, bytesOf_cons] at this ⊢
    omega

/-- what comes back for each option -/
def expect (s : List UInt8) (os : List Opt) : List (UInt8 × ByteArray) := os.map fun o => (o.l, if takes s o.l then o.v else ByteArray.empty)

/-- each option is known, and none is the dash -/
def Valid (s : List UInt8) (os : List Opt) : Prop := ∀ o ∈ os, o.l ≠ 45 ∧ known s o.l = true

/-- the first remaining word does not look like an option -/
def Plainly (ws : List (List UInt8)) : Prop := ∀ a t, ws = a :: t → ¬ (2 ≤ a.length ∧ a[0]? = some 45)

end Go.Proofs.Qxb6601022a.Pl
