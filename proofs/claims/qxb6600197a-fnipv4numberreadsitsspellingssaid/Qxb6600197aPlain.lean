/-
  The plain mathematics of the spellings: no Go in sight.
-/
import Derived.Laws.BytesArg
namespace Go.Proofs.Qxb6600197a.Pl

/-- the byte of a digit -/
def dgI (d : Int) : Int := if d < 10 then 48 + d else 87 + d
def dg (d : Nat) : Int := dgI d

/-- the value of a list of digits, the first the highest -/
def val (b : Nat) (ds : List Nat) : Nat := ds.foldl (fun n d => n * b + d) 0

/-- what holds at the head of each round of the spelling: x is what is left, ds the digits so far, k the place -/
def Inv (b v x k : Nat) (ds : List Nat) : Prop :=
  x * b ^ ds.length + val b ds = v ∧ (∀ d ∈ ds, d < b) ∧ k + ds.length = 64 ∧ (x = 0 → ds ≠ [] ∧ (2 ≤ ds.length → ds.head? ≠ some 0))

theorem foldl_val (b : Nat) (ds : List Nat) (n : Nat) : ds.foldl (fun n d => n * b + d) n = n * b ^ ds.length + val b ds := by
  unfold val
  induction ds generalizing n with
  | nil => simp
  | cons d ds ih =>
    simp only [List.foldl_cons, List.length_cons]
    rw [ih, ih (0 * b + d)]
    rw [Nat.pow_succ, Nat.zero_mul, Nat.zero_add, Nat.add_mul, Nat.mul_assoc, Nat.mul_comm b, Nat.add_assoc]

theorem val_cons (b d : Nat) (ds : List Nat) : val b (d :: ds) = d * b ^ ds.length + val b ds := by
  have h := foldl_val b ds (0 * b + d)
  rw [Nat.zero_mul, Nat.zero_add] at h
  rw [← h]
  simp [val]

theorem val_nil (b : Nat) : val b [] = 0 := rfl

/-- one step of the spelling keeps the sum -/
theorem step_sum (b v : Nat) (ds : List Nat) : v / b * b ^ (v % b :: ds).length + val b (v % b :: ds) = v * b ^ ds.length + val b ds := by
  rw [val_cons, List.length_cons, Nat.pow_succ, Nat.mul_comm (b ^ ds.length) b, ← Nat.mul_assoc, ← Nat.add_assoc, ← Nat.add_mul]
  congr 2
  rw [Nat.mul_comm]; exact Nat.div_add_mod v b

/-- a positive rest bounds the number of digits -/
theorem len_lt (b v x : Nat) (ds : List Nat) (hb : 8 ≤ b) (hv : 0 < v) (h : v * b ^ ds.length + val b ds = x) (hx : x < 2 ^ 64) : ds.length < 22 := by
  rcases Nat.lt_or_ge ds.length 22 with h1 | h1
  · exact h1
  · exfalso
    have h2 : 8 ^ 22 ≤ b ^ ds.length := Nat.le_trans (Nat.pow_le_pow_left hb 22) (Nat.pow_le_pow_right (by omega) h1)
    have h3 : b ^ ds.length ≤ v * b ^ ds.length := Nat.le_mul_of_pos_left _ hv
    have h4 : (8 : Nat) ^ 22 = 73786976294838206464 := by decide
    have h5 : (2 : Nat) ^ 64 = 18446744073709551616 := by decide
    omega

theorem inv_start (b v : Nat) (hv : 0 < v) : Inv b v v 64 [] :=
  ⟨by simp [val], by simp, rfl, fun h => by omega⟩

theorem inv_zero (b : Nat) (hb : 8 ≤ b) : Inv b 0 0 63 [0] :=
  ⟨by simp [val], by intro d h; simp at h; omega, rfl, fun _ => ⟨by simp, by simp⟩⟩

theorem inv_bound {b v x k : Nat} {ds : List Nat} (h : Inv b v x k ds) (hb : 8 ≤ b) (hv : v < 2 ^ 64) (hx : 0 < x) : 1 ≤ k ∧ k ≤ 64 := by
  have := len_lt b x v ds hb hx h.1 hv
  have := h.2.2.1
  omega

theorem inv_le {b v x k : Nat} {ds : List Nat} (h : Inv b v x k ds) (hb : 8 ≤ b) : x ≤ v := by
  have h1 := h.1
  have : x ≤ x * b ^ ds.length := Nat.le_mul_of_pos_right _ (Nat.pow_pos (by omega))
  omega

theorem inv_step {b v x k : Nat} {ds : List Nat} (h : Inv b v x k ds) (hb : 8 ≤ b) (hx : 0 < x) (hk : 1 ≤ k) : Inv b v (x / b) (k - 1) (x % b :: ds) := by
  obtain ⟨h1, h2, h3, h4⟩ := h
  refine ⟨(step_sum b x ds).trans h1, ?_, by simp; omega, fun h0 => ⟨by simp, fun _ => ?_⟩⟩
  · intro d hd
    rcases List.mem_cons.1 hd with e | e
    · rw [e]; exact Nat.mod_lt _ (by omega)
    · exact h2 d e
  · have : x < b := by
      rcases Nat.lt_or_ge x b with e | e
      · exact e
      · have := Nat.div_pos e (by omega); omega
    simp only [List.head?_cons, ne_eq, Option.some.injEq]
    rw [Nat.mod_eq_of_lt this]; omega

/-- what ipv4Number reckons -/
def acc (b : Nat) (ds : List Nat) : Nat := ds.foldl (fun n d => min (n * b + d) 4294967296) 0

theorem acc_snoc (b : Nat) (ds : List Nat) (d : Nat) : acc b (ds ++ [d]) = min (acc b ds * b + d) 4294967296 := by
  simp [acc]

theorem val_snoc (b : Nat) (ds : List Nat) (d : Nat) : val b (ds ++ [d]) = val b ds * b + d := by
  simp [val]

theorem acc_le (b : Nat) (ds : List Nat) : acc b ds ≤ 4294967296 := by
  rcases List.eq_nil_or_concat ds with h | ⟨l, d, h⟩
  · subst h; simp [acc]
  · subst h; rw [List.concat_eq_append, acc_snoc]; omega

theorem min_step (b d x n C : Nat) (hb : 1 ≤ b) (ih : n = min x C) : min (n * b + d) C = min (x * b + d) C := by
  rcases Nat.le_total x C with h | h
  · rw [ih, Nat.min_eq_left h]
  · rw [ih, Nat.min_eq_right h]
    have h1 : C ≤ C * b := Nat.le_mul_of_pos_right _ hb
    have h2 : x ≤ x * b := Nat.le_mul_of_pos_right _ hb
    omega

theorem acc_foldl (b : Nat) (hb : 1 ≤ b) (ds : List Nat) : ∀ (n x : Nat), n = min x 4294967296 →
    ds.foldl (fun n d => min (n * b + d) 4294967296) n = min (ds.foldl (fun n d => n * b + d) x) 4294967296 := by
  induction ds with
  | nil => intro n x h; simpa using h
  | cons d ds ih => intro n x h; exact ih _ _ (min_step b d x n _ hb h)

theorem acc_eq (b : Nat) (hb : 1 ≤ b) (ds : List Nat) : acc b ds = min (val b ds) 4294967296 :=
  acc_foldl b hb ds 0 0 (by decide)

end Go.Proofs.Qxb6600197a.Pl
