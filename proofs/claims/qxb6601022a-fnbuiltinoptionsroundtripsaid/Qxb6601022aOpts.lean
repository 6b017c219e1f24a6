import Derived.Test.Qxb6601022aRow
namespace Go.Proofs.Qxb6601022a
open Go.RowKit Go.Proofs.Qxb6601022a.Pl

/-- the cells of an option that comes back -/
def ocells (p : UInt8 × ByteArray) : List Value := [.int .u8 p.1.toNat, .string ⟨#[]⟩, .string p.2]

/-- v owns the options ps -/
def OwnsO (base : Nat) (w : World) (v : Value) (ps : List (UInt8 × ByteArray)) : Prop := w.ownsRow base 60 3 v ps.length (ps.flatMap ocells)

structure Bs (w0 wr : World) (vo : Value) (ps : List (UInt8 × ByteArray)) : Prop where
  o : OwnsO w0.heap.size wr vo ps
  n : Below w0.heap.size w0 wr

theorem Bs.alloc {w0 wr : World} {vo : Value} {ps : List (UInt8 × ByteArray)} (h : Bs w0 wr vo ps) (o : Obj) : Bs w0 (wr.alloc o) vo ps :=
  ⟨World.ownsRow.alloc h.o o, h.n.alloc h.n.size o⟩

theorem Bs.drawn {w0 wr w1 : World} {vo : Value} {ps : List (UInt8 × ByteArray)} (h : Bs w0 wr vo ps) (hq : ∃ q, w1 = wr.drewN q) : Bs w0 w1 vo ps := by
  obtain ⟨q, rfl⟩ := hq
  exact ⟨h.o, h.n.trans ⟨rfl, rfl, rfl, Nat.le_refl _, fun _ _ => rfl⟩⟩

theorem StrsV.below {w w' : World} {a : Option Addr} {xs : List ByteArray} (h : StrsV w a xs) (hb : Below w.heap.size w w') : StrsV w' a xs := by
  rcases h with h | ⟨b, off, ha, h⟩
  · exact .inl h
  · exact .inr ⟨b, off, ha, fun i hi => (hb.cell (p := ⟨b, off + i, Option.none⟩) (World.block_lt_of_cell? w _ (h i hi))).trans (h i hi)⟩

theorem OptsV.below {w w' : World} {a : Option Addr} {os : List Opt} (h : OptsV w a os) (hb : Below w.heap.size w w') : OptsV w' a os := by
  rcases h with h | ⟨b, off, ha, h⟩
  · exact .inl h
  · refine .inr ⟨b, off, ha, fun i hi => ?_⟩
    obtain ⟨h0, h1, h2, h3⟩ := h i hi
    have hbl : b < w.heap.size := World.block_lt_of_cell? w _ h0
    exact ⟨(hb.cell (p := ⟨b, _, Option.none⟩) hbl).trans h0, (hb.cell (p := ⟨b, _, Option.none⟩) hbl).trans h1, (hb.cell (p := ⟨b, _, Option.none⟩) hbl).trans h2, (hb.cell (p := ⟨b, _, Option.none⟩) hbl).trans h3⟩

/-- the first word of a slice, and the slice behind it -/
theorem StrsV.head {w : World} {a : Option Addr} {x : ByteArray} {xs : List ByteArray} (h : StrsV w a (x :: xs)) (m c : Nat) (hm : xs.length = m) (hc : m + 1 ≤ c) :
    ∃ b off a', a = some ⟨b, off, Option.none⟩ ∧ w.cell? ⟨b, off, Option.none⟩ = some (.string x) ∧ StrsV w a' xs ∧
      ∀ W, (Instr.slice 23 (.slice (some ⟨b, off, Option.none⟩) (m + 1) c) (some (.int .i64 1)) Option.none Option.none).run Try.prog W = .ok (.slice a' m (c - 1)) W := by
  subst hm
  rcases h with h | ⟨b, off, ha, h⟩
  · cases h
  · have ht : Try.prog.underlying 23 = some (.slice (Try.prog.elem 23)) := by simp [Program.elem, Try.underlying23]
    have e1 : Try.prog.elem 23 = 9 := by simp [Program.elem, Try.underlying23]
    have e3 : ∀ w, (Go.sizeOf 9).run Try.prog w = .ok 1 w := Try.sizeOf9
    refine ⟨b, off, some (if c = 1 then ⟨b, off, Option.none⟩ else ⟨b, off + 1, Option.none⟩), ha, h 0 (by simp), ?_, fun W => ?_⟩
    · by_cases hx : xs = []
      · exact .inl hx
      · have : 0 < xs.length := List.length_pos_iff.2 hx
        rw [if_neg (by omega)]
        refine .inr ⟨b, off + 1, rfl, fun i hi => ?_⟩
        rw [show off + 1 + i = off + (i + 1) by omega]
        exact h (i + 1) (by simp; omega)
    · have := run_slice_l (P := Try.prog) W 23 (some ⟨b, off, Option.none⟩) (xs.length + 1) c ht .i64 1 (by omega) (by omega)
      rw [this, e1]
      by_cases h1 : c = 1
      · simp [e3, sliced, h1]
      · simp [e3, sliced, h1, Addr.add]

section
variable {ops : Array Oper} {rest : List Oper} {o : Oper} {a : Act} {Q : Exit → Act → World → Prop}

/-- 'opts = append(opts, option{..})' -/
theorem Bo.add (hgd : o.guard = Option.none) (s x : Operand) (ho : o.op = .call { callee := .builtin .append, args := #[s, x], argTypes := #[56, 56] }) (w0 W : World) (vo : Value) (ps : List (UInt8 × ByteArray)) (c : UInt8) (st : ByteArray)
    (hs : a.eval s = vo) (hx : a.eval x = .slice (some ⟨W.heap.size, 0, Option.none⟩) 1 1) (H : Hid (Bs w0 W vo ps)) (hl : ps.length ≤ 16777216)
    (h : ∀ v' W', Hid (Bs w0 W' v' (ps ++ [(c, st)])) → wpList Try.prog ops Q rest (a.put o.dst v') W') :
    wpList Try.prog ops Q (o :: rest) a (W.alloc (.cells #[.int .u8 c.toNat, .string ⟨#[]⟩, .string st] 60)) := by
  obtain ⟨i, hi, hz0, hz1, hz2⟩ := info_parts Try.info60
  have H1 := H.out.alloc (.cells #[.int .u8 c.toNat, .string ⟨#[]⟩, .string st] 60)
  refine wpList_append_own _ hgd s x 56 ho w0.heap.size 60 i _ 3 40 Try.underlying56 hi hz0 hz1 hz2 rfl (by decide) vo ps.length (ps.flatMap ocells) hs H1.o ⟨W.heap.size, 0, Option.none⟩ 1 1 (ocells (c, st)) hx rfl ?_ (by simp [Value.oneCell', ocells]) (by unfold maxLen; omega) (by omega) H1.n.size ?_
  · intro j u hj
    match j, hj with
    | 0, hj => simp [ocells] at hj; subst hj; simp [Addr.add]
    | 1, hj => simp [ocells] at hj; subst hj; simp [Addr.add]
    | 2, hj => simp [ocells] at hj; subst hj; simp [Addr.add]
  · intro v' w' h1 h2 _
    refine h v' w' ⟨?_, H1.n.grown h2 H1.n.size (fun k hk => (World.ownsRow.lt H1.o k hk).1)⟩
    unfold OwnsO
    rw [List.length_append, List.flatMap_append]
    simpa using h1
end

theorem Bo.index (s : ByteArray) (c : UInt8) (j : Nat) (w : World) (hj : Hid (Lib.indexByte (B s) c = j)) :
    Calls Try.prog 33 #[.string s, .int .u8 c.toNat] w fun e w' => e = .returned (.int .i64 j) ∧ w' = w := by
  refine (Try.strings_IndexByte s c.toNat w).mono fun e w' h => ⟨?_, h.2⟩
  rw [h.1]
  have e1 : ((c.toNat : Int)).toNat.toUInt8 = c := by simp
  rw [e1, hj.out]

def lenOf : Value → Nat | .slice _ n _ => n | _ => 0

/-- what is left of the words is what the options left write, and the tail -/
structure Bo.St (s : List UInt8) (all os : List Opt) (T : List (List UInt8)) (w0 : World) (a : Option Addr) (xs : List ByteArray) (ps : List (UInt8 × ByteArray)) : Prop where
  mem : StrsV w0 a xs
  words : xs.map B = closed s os ++ T
  done : ps ++ expect s os = expect s all
  valid : Valid s os

theorem B_inj {x y : ByteArray} (h : B x = B y) : x = y := by rw [← Str_of x, ← Str_of y, h]
theorem B_map_inj : ∀ {xs ys : List ByteArray}, xs.map B = ys.map B → xs = ys
  | [], [], _ => rfl
  | [], y :: ys, h => by simp at h
  | x :: xs, [], h => by simp at h
  | x :: xs, y :: ys, h => by
    simp only [List.map_cons, List.cons.injEq] at h
    rw [B_inj h.1, B_map_inj h.2]

theorem Bo.ret {vo : Value} {a : Option Addr} {n c : Nat} {R : List ByteArray} (h : n = R.length) : Ending.returned (.tuple #[vo, .slice a n c, .bool true]) = .returned (.tuple #[vo, .slice a R.length c, .bool true]) := by rw [h]

theorem Bo.ended {s : List UInt8} {all : List Opt} {ps : List (UInt8 × ByteArray)} (h : ps ++ expect s [] = expect s all) : ps = expect s all := by
  simpa [expect] using h

/-- no word is left -/
theorem Bo.none_left {s : List UInt8} {all os : List Opt} {R : List ByteArray} {d : Bool} {w : World} {a : Option Addr} {ps : List (UInt8 × ByteArray)} (h : Bo.St s all os ((if d then [[45, 45]] else []) ++ R.map B) w a [] ps) : R = [] ∧ ps = expect s all := by
  have h1 := h.words
  have h2 := h.done
  cases os with
  | cons o os => simp [closed] at h1
  | nil =>
    refine ⟨?_, Bo.ended h2⟩
    cases R with
    | nil => rfl
    | cons r R => simp [closed] at h1

/-- what the next word can be -/
theorem Bo.next {s : List UInt8} {all os : List Opt} {R : List ByteArray} {d : Bool} {w : World} {a : Option Addr} {x : ByteArray} {xs : List ByteArray} {ps : List (UInt8 × ByteArray)} (h : Bo.St s all os ((if d then [[45, 45]] else []) ++ R.map B) w a (x :: xs) ps) (hp : d = false → Plainly (R.map B)) :
    (B x = [45, 45] ∧ xs = R ∧ ps = expect s all) ∨ (x :: xs = R ∧ ps = expect s all ∧ ¬ (2 ≤ (B x).length ∧ (B x)[0]? = some 45)) ∨
    (∃ o os', os = o :: os' ∧ B x = 45 :: (letter s os' o).1 ∧ xs.map B = (letter s os' o).2 ++ ((if d then [[45, 45]] else []) ++ R.map B)) := by
  have h1 := h.words
  have h2 := h.done
  cases os with
  | nil =>
    cases d with
    | true =>
      left
      simp [closed] at h1
      exact ⟨h1.1, B_map_inj h1.2, Bo.ended h2⟩
    | false =>
      right; left
      simp only [closed, List.nil_append, Bool.false_eq_true, if_false] at h1
      have h3 := B_map_inj h1
      refine ⟨h3, Bo.ended h2, ?_⟩
      exact hp rfl (B x) (xs.map B) (by rw [← h1]; rfl)
  | cons o os =>
    right; right
    simp only [closed, List.map_cons, List.cons_append, List.cons.injEq] at h1
    exact ⟨o, os, rfl, h1.1, h1.2⟩

theorem Bo.isDD {x : ByteArray} (h : B x = [45, 45]) : (x.toList == [45, 45]) = true := by
  rw [ByteArray.toList_eq]; show (B x == [45, 45]) = true; rw [h]; rfl

theorem Bo.notDD {x : ByteArray} (h : ¬ (2 ≤ (B x).length ∧ (B x)[0]? = some 45)) : (x.toList == [45, 45]) = false := by
  rw [ByteArray.toList_eq]
  show (B x == [45, 45]) = false
  rw [beq_eq_false_iff_ne]
  intro e
  rw [e] at h
  simp at h

theorem Bo.first_ne {x : ByteArray} (h : ¬ (2 ≤ (B x).length ∧ (B x)[0]? = some 45)) (h2 : 2 ≤ x.size) : ((x[0].toNat : Int) != 45) = true := by
  have h3 : x[0] ≠ 45 := by
    intro e
    apply h
    rw [B_length]
    exact ⟨h2, by rw [Sl.at x 0 (by omega), e]⟩
  have := Sl.dash h3
  simp only [bne, this]; rfl

/-- inside a word: what is left of it, and of the words behind it -/
structure Bo.In (s : List UInt8) (all os : List Opt) (T : List (List UInt8)) (w0 : World) (a : Option Addr) (xs : List ByteArray) (ps : List (UInt8 × ByteArray)) (x : ByteArray) (k : Nat) : Prop where
  mem : StrsV w0 a xs
  left : (B x).drop k = (cont s os).1
  words : xs.map B = (cont s os).2 ++ T
  done : ps ++ expect s os = expect s all
  valid : Valid s os

theorem letter_nw (s : List UInt8) (os : List Opt) (o : Opt) : letter s os { o with nw := false } = letter s os o := by
  cases h : takes s o.l
  · rw [letter_bare h, letter_bare (o := { o with nw := false }) h]
  · cases hi : inside o
    · rw [letter_takes_out h hi, letter_takes_out (o := { o with nw := false }) h hi]
    · rw [letter_takes_in h hi, letter_takes_in (o := { o with nw := false }) h hi]

/-- the first byte of a word of options is passed over -/
theorem Bo.enter {s : List UInt8} {all os os' : List Opt} {o : Opt} {T : List (List UInt8)} {w : World} {a a' : Option Addr} {x : ByteArray} {xs : List ByteArray} {ps : List (UInt8 × ByteArray)} (h : Bo.St s all os T w a (x :: xs) ps) (g1 : os = o :: os') (g2 : B x = 45 :: (letter s os' o).1) (g3 : xs.map B = (letter s os' o).2 ++ T) (hm : StrsV w a' xs) :
    Bo.In s all ({ o with nw := false } :: os') T w a' xs ps x 1 := by
  subst g1
  have e : cont s ({ o with nw := false } :: os') = letter s os' o := by simp only [cont]; rw [letter_nw]; rfl
  refine ⟨hm, by rw [g2, e]; rfl, by rw [g3, e], ?_, ?_⟩
  · rw [← h.done]; rfl
  · intro p hp
    rcases List.mem_cons.1 hp with h1 | h1
    · rw [h1]; exact h.valid o (by simp)
    · exact h.valid p (by simp [h1])

theorem Bo.word_facts {s : List UInt8} {all os os' : List Opt} {o : Opt} {T : List (List UInt8)} {w : World} {a : Option Addr} {x : ByteArray} {xs : List ByteArray} {ps : List (UInt8 × ByteArray)} (h : Bo.St s all os T w a (x :: xs) ps) (g1 : os = o :: os') (g2 : B x = 45 :: (letter s os' o).1) :
    (x.toList == [45, 45]) = false ∧ ∃ h2 : 2 ≤ x.size, ((x[0].toNat : Int) != 45) = false := by
  obtain ⟨y, hy⟩ := letter_ne (s := s) (os := os') (o := o)
  rw [hy] at g2
  have hsz : 2 ≤ x.size := by rw [← B_length, g2]; simp
  refine ⟨?_, hsz, ?_⟩
  · rw [ByteArray.toList_eq]
    show (B x == [45, 45]) = false
    rw [beq_eq_false_iff_ne, g2]
    intro e
    simp at e
    exact (h.valid o (by rw [g1]; simp)).1 e.1
  · have h0 := Sl.at x 0 (by omega)
    rw [g2] at h0
    simp at h0
    rw [← h0]; rfl

/-- the end of a word -/
theorem Bo.leave {s : List UInt8} {all os : List Opt} {T : List (List UInt8)} {w : World} {a : Option Addr} {x : ByteArray} {xs : List ByteArray} {ps : List (UInt8 × ByteArray)} {k : Nat} (h : Bo.In s all os T w a xs ps x k) (hk : ¬ k < x.size) : Bo.St s all os T w a xs ps := by
  have h1 := h.left
  rw [List.drop_eq_nil_of_le (by rw [B_length]; omega)] at h1
  refine ⟨h.mem, ?_, h.done, h.valid⟩
  rw [h.words, cont_nil h1.symm]

/-- the letter at hand -/
theorem Bo.letter_at {s : ByteArray} {all os : List Opt} {T : List (List UInt8)} {w : World} {a : Option Addr} {x : ByteArray} {xs : List ByteArray} {ps : List (UInt8 × ByteArray)} {k : Nat} (h : Bo.In (B s) all os T w a xs ps x k) (hk : k < x.size) :
    ∃ o os', os = o :: os' ∧ x[k] = o.l ∧ (B x).drop (k + 1) = (letter (B s) os' o).1.tail ∧ xs.map B = (letter (B s) os' o).2 ++ T ∧ x[k] ≠ 58 ∧ ∃ j : Nat, Lib.indexByte (B s) x[k] = j ∧ j < s.size := by
  have h1 := h.left
  rw [List.drop_eq_getElem_cons (by rw [B_length]; exact hk)] at h1
  obtain ⟨o, os', e1, e2, e3⟩ := cont_cons h1.symm
  have ex : (B x)[k]'(by rw [B_length]; exact hk) = x[k] := rfl
  rw [ex] at e2 h1
  have hv := h.valid o (by rw [e1]; simp)
  have hkn := hv.2
  unfold known at hkn
  simp only [Bool.and_eq_true, bne_iff_ne, ne_eq, decide_eq_true_eq] at hkn
  refine ⟨o, os', e1, e2, ?_, by rw [h.words, e3], by rw [e2]; exact hkn.1, (Lib.indexByte (B s) o.l).toNat, by rw [e2]; omega, ?_⟩
  · rw [e3] at h1
    rw [← h1]; rfl
  · have h2 := Lib.indexByte_some (l := B s) (c := o.l) (o := (Lib.indexByte (B s) o.l).toNat) (by omega)
    rcases Nat.lt_or_ge (Lib.indexByte (B s) o.l).toNat s.size with h3 | h3
    · exact h3
    · rw [List.getElem?_eq_none (by rw [B_length]; exact h3)] at h2
      cases h2.1

theorem Bo.takes_iff {s : ByteArray} {c : UInt8} {j : Nat} (hk : known (B s) c = true) (hj : Lib.indexByte (B s) c = j) : takes (B s) c = ((B s)[j + 1]? == some 58) := by
  unfold takes
  rw [hk, hj, Int.toNat_natCast]; rfl

theorem Bo.len {s : List UInt8} {all os : List Opt} {T : List (List UInt8)} {w : World} {a : Option Addr} {x : ByteArray} {xs : List ByteArray} {ps : List (UInt8 × ByteArray)} {k : Nat} (h : Bo.In s all os T w a xs ps x k) : ps.length ≤ all.length := by
  have := congrArg List.length h.done
  simp [expect] at this
  omega

theorem Bo.step_bare {s : List UInt8} {all os os' : List Opt} {o : Opt} {T : List (List UInt8)} {w : World} {a : Option Addr} {x : ByteArray} {xs : List ByteArray} {ps : List (UInt8 × ByteArray)} {k : Nat} {c : UInt8} (h : Bo.In s all os T w a xs ps x k) (e1 : os = o :: os') (e2 : c = o.l)
    (e3 : (B x).drop (k + 1) = (letter s os' o).1.tail) (e4 : xs.map B = (letter s os' o).2 ++ T) (ht : takes s o.l = false) : Bo.In s all os' T w a xs (ps ++ [(c, ⟨#[]⟩)]) x (k + 1) := by
  rw [letter_bare ht] at e3 e4
  refine ⟨h.mem, e3, e4, ?_, fun p hp => h.valid p (by rw [e1]; simp [hp])⟩
  rw [← h.done, e1, e2]
  simp [expect, ht]
  rfl

theorem Bo.step_in {s : List UInt8} {all os os' : List Opt} {o : Opt} {T : List (List UInt8)} {w : World} {a : Option Addr} {x : ByteArray} {xs : List ByteArray} {ps : List (UInt8 × ByteArray)} {k : Nat} {c : UInt8} (h : Bo.In s all os T w a xs ps x k) (e1 : os = o :: os') (e2 : c = o.l)
    (e3 : (B x).drop (k + 1) = (letter s os' o).1.tail) (e4 : xs.map B = (letter s os' o).2 ++ T) (ht : takes s o.l = true) (hi : inside o = true) :
    Bo.St s all os' T w a xs (ps ++ [(c, x.extract (k + 1) x.size)]) ∧ (x.extract (k + 1) x.size).toList.isEmpty = false := by
  rw [letter_takes_in ht hi] at e3 e4
  have ev : x.extract (k + 1) x.size = o.v := by
    rw [Lib.extract_eq, List.take_of_length_le (by simp)]
    show Str ((B x).drop (k + 1)) = o.v
    rw [e3]
    exact Str_of o.v
  refine ⟨⟨h.mem, e4, ?_, fun p hp => h.valid p (by rw [e1]; simp [hp])⟩, ?_⟩
  · rw [← h.done, e1, e2, ev]
    simp [expect, ht]
  · rw [ev, ByteArray.toList_eq]
    unfold inside at hi
    simp at hi
    simpa [B] using hi.2

theorem Bo.step_out {s : List UInt8} {all os os' : List Opt} {o : Opt} {T : List (List UInt8)} {w : World} {a : Option Addr} {x : ByteArray} {xs : List ByteArray} {ps : List (UInt8 × ByteArray)} {k : Nat} {c : UInt8} (h : Bo.In s all os T w a xs ps x k) (e1 : os = o :: os') (e2 : c = o.l)
    (e3 : (B x).drop (k + 1) = (letter s os' o).1.tail) (e4 : xs.map B = (letter s os' o).2 ++ T) (ht : takes s o.l = true) (hi : inside o = false) :
    (x.extract (k + 1) x.size).toList.isEmpty = true ∧ ∃ y ys, xs = y :: ys ∧ ∀ a', StrsV w a' ys → Bo.St s all os' T w a' ys (ps ++ [(c, y)]) := by
  rw [letter_takes_out ht hi] at e3 e4
  refine ⟨?_, ?_⟩
  · rw [ByteArray.toList_eq, Lib.extract_data, List.take_of_length_le (by simp)]
    show ((B x).drop (k + 1)).isEmpty = true
    rw [e3]; rfl
  · cases xs with
    | nil => simp at e4
    | cons y ys =>
      simp only [List.map_cons, List.cons_append, List.cons.injEq] at e4
      refine ⟨y, ys, rfl, fun a' hm => ⟨hm, e4.2, ?_, fun p hp => h.valid p (by rw [e1]; simp [hp])⟩⟩
      rw [← h.done, e1, e2, B_inj e4.1]
      simp [expect, ht]

theorem Bo.no_next {s : ByteArray} {c : UInt8} {j : Nat} (hk : known (B s) c = true) (hj : Lib.indexByte (B s) c = j) (h : j + 1 = s.size) : takes (B s) c = false := by
  rw [Bo.takes_iff hk hj, List.getElem?_eq_none (by rw [B_length]; omega)]; rfl

theorem Bo.next_is {s : ByteArray} {c : UInt8} {j : Nat} (hk : known (B s) c = true) (hj : Lib.indexByte (B s) c = j) (h : j + 1 < s.size) (h5 : s[j + 1] = 58) : takes (B s) c = true := by
  rw [Bo.takes_iff hk hj, Sl.at s (j + 1) h, h5]; rfl

theorem Bo.next_not {s : ByteArray} {c : UInt8} {j : Nat} (hk : known (B s) c = true) (hj : Lib.indexByte (B s) c = j) (h : j + 1 < s.size) (h5 : s[j + 1] ≠ 58) : takes (B s) c = false := by
  rw [Bo.takes_iff hk hj, Sl.at s (j + 1) h]
  simpa using h5

theorem Bo.bne_of {a b : Int} (h : (a == b) = false) : (a != b) = true := by simp only [bne, h]; rfl
theorem Bo.bne_of' {a b : Int} (h : (a == b) = true) : (a != b) = false := by simp only [bne, h]; rfl

set_option maxRecDepth 100000 in
set_option maxHeartbeats 4000000 in
theorem Bo.parse (s : ByteArray) (a : Option Addr) (c : Nat) (os : List Opt) (xs R : List ByteArray) (d : Bool) (w : World) (hs : s.size ≤ 1048576) (ho : os.length ≤ 1048576) (hc : xs.length ≤ c) (hx : xs.length ≤ 4194304) (hz : ∀ x ∈ xs, x.size ≤ 4194304)
    (HS : Hid (Bo.St (B s) os os ((if d then [[45, 45]] else []) ++ R.map B) w a xs [])) (HP : Hid (d = false → Plainly (R.map B))) :
    Calls Try.prog 30 #[.slice a xs.length c, .string s] w fun e w' => ∃ vo a' c', e = .returned (.tuple #[vo, .slice a' R.length c', .bool true]) ∧ StrsV w a' R ∧ Bs w w' vo (expect (B s) os) := by
  go_enter Try.func30, Try.ntmps30
  go_wp2
  go_loopw [0, 4] (fun va vo wr => ∃ (a : Option Addr) (c n : Nat) (xs : List ByteArray) (os' : List Opt) (ps : List (UInt8 × ByteArray)), va = .slice a n c ∧ n ≤ c ∧ n ≤ 4194304 ∧ Hid (xs.length = n) ∧ Hid (∀ x ∈ xs, x.size ≤ 4194304) ∧ Hid (Bo.St (B s) os os' ((if d then [[45, 45]] else []) ++ R.map B) w a xs ps) ∧ Hid (Bs w wr vo ps))
    (fun va _ _ => lenOf va)
  case atStart => exact ⟨a, c, xs.length, xs, os, [], rfl, hc, hx, rfl, hz, HS, ⟨World.ownsRow_nil _ _ _ _, Below.refl _ _⟩⟩
  case round =>
    clear HS hc hx hz
    obtain ⟨a, c, n, xs, os', ps, rfl, hc, hx, HN, HZ, HS, HB⟩ := hrel
    cases n with
    | zero =>
      obtain rfl : xs = [] := List.eq_nil_of_length_eq_zero HN.out
      go_wp2
      go_ret3
      obtain ⟨h1, h2⟩ := Bo.none_left HS.out
      subst h1
      exact ⟨_, _, _, Bo.ret rfl, .inl rfl, by rw [← h2]; exact HB.out⟩
    | succ m =>
      obtain ⟨x, xs, rfl⟩ : ∃ x xs', xs = x :: xs' := by
        cases xs with
        | nil => cases HN.out
        | cons x xs => exact ⟨x, xs, rfl⟩
      have hm : xs.length = m := by have := HN.out; simpa using this
      obtain ⟨b, off, a', rfl, hcell, hmem, hsl⟩ := HS.out.mem.head m c hm hc
      have hcell' := (HB.out.n.cell (p := ⟨b, off, Option.none⟩) (World.block_lt_of_cell? w _ hcell)).trans hcell
      have HM : Hid (StrsV w a' xs) := hmem
      have HL : Hid (xs.length = m) := hm
      clear hcell hmem hm
      rcases Bo.next HS.out HP.out with ⟨g1, g2, g3⟩ | ⟨g1, g2, g3⟩ | ⟨o, os'', g1, g2, g3⟩
      · have hdd := Bo.isDD g1
        have G : Hid (xs = R ∧ ps = expect (B s) os) := ⟨g2, g3⟩
        clear g1 g2 g3
        go_wp2
        go_quiet (fail)
        go_wp2
        go_ret3
        obtain ⟨g2, g3⟩ := G.out
        exact ⟨_, _, _, Bo.ret (by rw [← g2]; exact HL.out.symm), by rw [← g2]; exact HM.out, by rw [← g3]; exact HB.out.drawn ⟨nq, rfl⟩⟩
      · have hdd := Bo.notDD g3
        have G : Hid (x :: xs = R ∧ ps = expect (B s) os) := ⟨g1, g2⟩
        clear g1 g2
        by_cases h2 : (x.size : Int) < 2
        · clear g3
          go_wp2
          go_ret3
          obtain ⟨g2, g3⟩ := G.out
          exact ⟨_, _, _, Bo.ret (by rw [← g2]; exact HN.out.symm), by rw [← g2]; exact HS.out.mem, by rw [← g3]; exact HB.out⟩
        · have hne := Bo.first_ne g3 (by omega)
          clear g3
          go_wp2
          go_ret3
          obtain ⟨g2, g3⟩ := G.out
          exact ⟨_, _, _, Bo.ret (by rw [← g2]; exact HN.out.symm), by rw [← g2]; exact HS.out.mem, by rw [← g3]; exact HB.out⟩
      · obtain ⟨hdd, h2, hne⟩ := Bo.word_facts HS.out g1 g2
        have HI : Hid (Bo.In (B s) os ({ o with nw := false } :: os'') ((if d then [[45, 45]] else []) ++ R.map B) w a' xs ps x 1) := Bo.enter HS.out g1 g2 g3 HM.out
        have hxs : x.size ≤ 4194304 := HZ.out x (by simp)
        have HZ' : Hid (∀ x ∈ xs, x.size ≤ 4194304) := fun y hy => HZ.out y (by simp [hy])
        clear g1 g2 g3 HS HZ
        go_wp2
        go_loopw [0, 4, 8] (fun va vo i wr => ∃ (a : Option Addr) (c n k : Nat) (xs : List ByteArray) (os' : List Opt) (ps : List (UInt8 × ByteArray)), va = .slice a n c ∧ n ≤ c ∧ n ≤ m ∧ Hid (xs.length = n) ∧ Hid (∀ x ∈ xs, x.size ≤ 4194304) ∧ i = .int .i64 k ∧ 1 ≤ k ∧ k ≤ x.size ∧ Hid (Bo.In (B s) os os' ((if d then [[45, 45]] else []) ++ R.map B) w a xs ps x k) ∧ Hid (Bs w wr vo ps)) (fun _ _ i _ => x.size - (intOf i).toNat)
        case atStart => exact ⟨a', c - 1, m, 1, xs, _, ps, rfl, by omega, by omega, HL, HZ', rfl, by omega, by omega, HI, HB⟩
        case round =>
          clear HI HB HZ' HL HM hcell' hsl HN hne hdd
          obtain ⟨a, c, n, k, xs, os', ps, rfl, hc, hn, HN, HZ, rfl, hk1, hk2, HI, HB⟩ := hrel
          by_cases hlt : k < x.size
          · obtain ⟨o, os'', e1, e2, e3, e4, e5, j, e6, e7⟩ := Bo.letter_at HI.out hlt
            have hkn : known (B s) o.l = true := (HI.out.valid o (by rw [e1]; simp)).2
            have hps := Bo.len HI.out
            have e6' : Lib.indexByte (B s) o.l = j := by rw [← e2]; exact e6
            have hcol := Sl.colon e5
            have HJ : Hid (Lib.indexByte (B s) x[k] = j) := e6
            have hj0 : (0 : Int) ≤ (j : Int) + 1 := by omega
            by_cases hj1 : j + 1 = s.size
            · have ht := Bo.no_next hkn e6' hj1
              have hjb : (((j : Int) + 1) == (s.size : Int)) = true := by rw [beq_iff_eq]; omega
              have HI2 : Hid (Bo.In (B s) os os'' ((if d then [[45, 45]] else []) ++ R.map B) w a xs (ps ++ [(x[k], ⟨#[]⟩)]) x (k + 1)) := Bo.step_bare HI.out e1 e2 e3 e4 ht
              clear e1 e2 e3 e4 e5 e6 e6' hkn ht hj1 HI
              go_wp2_with (first | (go_at_call 33; refine (Bo.index s x[k] j _ HJ).mono ?_; rintro e w1 ⟨rfl, hw1⟩; obtain rfl := hw1.symm) | (at_builtin; go_must (refine Bo.add rfl (.tmp 65) (.tmp 70) rfl w wr u4 ps x[k] ⟨#[]⟩ rfl rfl HB (by omega) ?_)))
              intro v2 w2 HB2
              go_wp2
              go_roundw
              case rel => exact ⟨a, c, n, k + 1, xs, os'', _, rfl, hc, hn, HN, HZ, by go_num, by omega, by omega, HI2, HB2⟩
              case measure => simp [intOf]; omega
            · have hjb : (((j : Int) + 1) == (s.size : Int)) = false := by rw [beq_eq_false_iff_ne]; omega
              have hj2 : j + 1 < s.size := by omega
              by_cases h58 : s[j + 1] = 58
              · have ht := Bo.next_is hkn e6' hj2 h58
                have hb5 : ((s[j + 1].toNat : Int) != 58) = false := Bo.bne_of' (by rw [h58]; rfl)
                cases hin : inside o
                · obtain ⟨hve, y, ys, rfl, hst⟩ := Bo.step_out HI.out e1 e2 e3 e4 ht hin
                  have HST : Hid (∀ a', StrsV w a' ys → Bo.St (B s) os os'' ((if d then [[45, 45]] else []) ++ R.map B) w a' ys (ps ++ [(x[k], y)])) := hst
                  obtain ⟨n, rfl⟩ : ∃ n', n = n' + 1 := ⟨ys.length, by have := HN.out; simpa using this.symm⟩
                  have hys : ys.length = n := by have := HN.out; simpa using this
                  obtain ⟨b2, off2, a2, rfl, hcell, hmem, hsl⟩ := HI.out.mem.head n c hys hc
                  have hcell2 := (HB.out.n.cell (p := ⟨b2, off2, Option.none⟩) (World.block_lt_of_cell? w _ hcell)).trans hcell
                  have HY : Hid (ys.length = n) := hys
                  have HM : Hid (StrsV w a2 ys) := hmem
                  have HZ2 : Hid (∀ x ∈ ys, x.size ≤ 4194304) := fun z hz => HZ.out z (by simp [hz])
                  clear e1 e2 e3 e4 e5 e6 e6' hkn ht h58 hin hst hys hcell hmem HI HZ HN
                  go_wp2_with (go_at_call 33; refine (Bo.index s x[k] j _ HJ).mono ?_; rintro e w1 ⟨rfl, hw1⟩; obtain rfl := hw1.symm)
                  go_quiet (fail)
                  go_wp2_with (at_builtin; go_must (refine Bo.add rfl (.tmp 86) (.tmp 92) rfl w (wr.drewN nq) u4 ps x[k] y rfl rfl (HB.out.drawn ⟨nq, rfl⟩) (by omega) ?_))
                  intro v2 w2 HB2
                  go_wp2
                  go_roundw
                  case rel => exact ⟨a2, c - 1, n, ys, os'', _, rfl, by omega, by omega, HY, HZ2, HST.out a2 HM.out, HB2⟩
                  case measure => simp [lenOf]; omega
                · obtain ⟨hst, hve⟩ := Bo.step_in HI.out e1 e2 e3 e4 ht hin
                  have HST : Hid (Bo.St (B s) os os'' ((if d then [[45, 45]] else []) ++ R.map B) w a xs (ps ++ [(x[k], x.extract (k + 1) x.size)])) := hst
                  clear e1 e2 e3 e4 e5 e6 e6' hkn ht h58 hin hst HI
                  go_wp2_with (first | (go_at_call 33; refine (Bo.index s x[k] j _ HJ).mono ?_; rintro e w1 ⟨rfl, hw1⟩; obtain rfl := hw1.symm) | (at_builtin; go_must (refine Bo.add rfl (.tmp 86) (.tmp 92) rfl w wr u4 ps x[k] (x.extract (k + 1) x.size) rfl rfl HB (by omega) ?_)))
                  intro v2 w2 HB2
                  go_wp2
                  go_roundw
                  case rel => exact ⟨a, c, n, xs, os'', _, rfl, hc, by omega, HN, HZ, HST, HB2⟩
                  case measure => simp [lenOf]; omega
              · have ht := Bo.next_not hkn e6' hj2 h58
                have hb5 : ((s[j + 1].toNat : Int) != 58) = true := Bo.bne_of (Sl.colon h58)
                have HI2 : Hid (Bo.In (B s) os os'' ((if d then [[45, 45]] else []) ++ R.map B) w a xs (ps ++ [(x[k], ⟨#[]⟩)]) x (k + 1)) := Bo.step_bare HI.out e1 e2 e3 e4 ht
                clear e1 e2 e3 e4 e5 e6 e6' hkn ht h58 HI
                go_wp2_with (first | (go_at_call 33; refine (Bo.index s x[k] j _ HJ).mono ?_; rintro e w1 ⟨rfl, hw1⟩; obtain rfl := hw1.symm) | (at_builtin; go_must (refine Bo.add rfl (.tmp 65) (.tmp 70) rfl w wr u4 ps x[k] ⟨#[]⟩ rfl rfl HB (by omega) ?_)))
                intro v2 w2 HB2
                go_wp2
                go_roundw
                case rel => exact ⟨a, c, n, k + 1, xs, os'', _, rfl, hc, hn, HN, HZ, by go_num, by omega, by omega, HI2, HB2⟩
                case measure => simp [intOf]; omega
          · go_wp2
            go_roundw
            case rel => exact ⟨a, c, n, xs, os', ps, rfl, hc, by omega, HN, HZ, Bo.leave HI.out hlt, HB⟩
            case measure => simp [lenOf]; omega

end Go.Proofs.Qxb6601022a
