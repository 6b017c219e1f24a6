import Derived.Test.Qxb6601022aClone
import Derived.Lib.AppendStr
import Derived.Laws.BytesArg
import Derived.WalkSpells
namespace Go.Proofs.Qxb6601022a
open Go.RowKit Go.Proofs.Qxb6601022a.Pl

theorem Try.info5 : (Try.prog.info? 5).map (fun i => (i.zero, i.size, i.bytes)) = some (some (.int .u8 0), 1, 1) := by kernel_rfl
theorem Try.info60 : (Try.prog.info? 60).map (fun i => (i.zero, i.size, i.bytes)) = some (some (.agg #[.int .u8 0, .string ⟨#[]⟩, .string ⟨#[]⟩]), 3, 40) := by kernel_rfl

/-- a text of bytes -/
def Str (l : List UInt8) : ByteArray := ⟨l.toArray⟩
theorem Str_B (l : List UInt8) : B (Str l) = l := by simp [Str, B]
theorem Str_of (s : ByteArray) : Str (B s) = s := by simp [Str, B]
theorem Str_size (l : List UInt8) : (Str l).size = l.length := by simp [Str, ByteArray.size]

def bcell (b : UInt8) : Value := .int .u8 b.toNat

/-- v owns the words ws -/
def OwnsW (base : Nat) (w : World) (v : Value) (ws : List ByteArray) : Prop := w.ownsRow base 9 1 v ws.length (ws.map Value.string)
/-- v owns the bytes wd -/
def OwnsB (base : Nat) (w : World) (v : Value) (wd : List UInt8) : Prop := w.ownsRow base 5 1 v wd.length (wd.map bcell)

/-- two rows of two element types lie in two blocks -/
theorem Rw.apart {w : World} {b1 b2 : Nat} {e1 e2 s1 s2 : Nat} {v1 v2 : Value} {n1 n2 : Nat} {x1 x2 : List Value} (h1 : w.ownsRow b1 e1 s1 v1 n1 x1) (h2 : w.ownsRow b2 e2 s2 v2 n2 x2) (he : e1 ≠ e2) :
    v1.ownBlock = Option.none ∨ v1.ownBlock ≠ v2.ownBlock := by
  rcases h1.2 with ⟨rfl, _⟩ | ⟨g1, c1, cur1, rfl, _, hg1, _⟩
  · exact .inl rfl
  · right
    rcases h2.2 with ⟨rfl, _⟩ | ⟨g2, c2, cur2, rfl, _, hg2, _⟩
    · simp [Value.ownBlock]
    · simp only [Value.ownBlock, ne_eq, Option.some.injEq]
      intro e
      subst e
      rw [hg1] at hg2
      simp only [Option.some.injEq, Obj.cells.injEq] at hg2
      exact he hg2.2.1

/-- a block of another element type stays where a row grows -/
theorem Rw.block {w w' : World} {b1 : Nat} {e1 s1 : Nat} {v1 : Value} {n1 : Nat} {x1 : List Value} {g : Nat} {cs : Array Value} {e : Nat} (h1 : w.ownsRow b1 e1 s1 v1 n1 x1) (hg : w.heap[g]? = some (.cells cs e (0, 0))) (he : e ≠ e1)
    (hgr : w.grownBy w' v1.ownBlock) : w'.heap[g]? = some (.cells cs e (0, 0)) := by
  rw [hgr.block g (Array.getElem?_eq_some_iff.1 hg).1 ?_]
  · exact hg
  · rcases h1.2 with ⟨rfl, _⟩ | ⟨g1, c1, cur1, rfl, _, hg1, _⟩
    · simp [Value.ownBlock]
    · simp only [Value.ownBlock, ne_eq, Option.some.injEq]
      intro ee
      subst ee
      rw [hg] at hg1
      simp only [Option.some.injEq, Obj.cells.injEq] at hg1
      exact he hg1.2.1

/-- the blocks of element type e are as they were -/
def Keeps (e : TypeId) (W W' : World) : Prop := ∀ (g : Nat) (cs : Array Value), W.heap[g]? = some (Obj.cells cs e (0, 0)) → W'.heap[g]? = some (Obj.cells cs e (0, 0))

theorem Rw.grown_size {w w' : World} {r : Option Nat} (h : w.grownBy w' r) : w.heap.size ≤ w'.heap.size := h.size

/-- words and a word in the making, in memory of the call's own -/
structure Rs (w0 wr : World) (va vw : Value) (ws : List ByteArray) (wd : List UInt8) : Prop where
  a : OwnsW w0.heap.size wr va ws
  b : OwnsB w0.heap.size wr vw wd
  n : Below w0.heap.size w0 wr

theorem Rs.alloc {w0 wr : World} {va vw : Value} {ws : List ByteArray} {wd : List UInt8} (h : Rs w0 wr va vw ws wd) (o : Obj) : Rs w0 (wr.alloc o) va vw ws wd :=
  ⟨World.ownsRow.alloc h.a o, World.ownsRow.alloc h.b o, h.n.alloc h.n.size o⟩

theorem Rs.drawn {w0 wr w1 : World} {va vw : Value} {ws : List ByteArray} {wd : List UInt8} (h : Rs w0 wr va vw ws wd) (hq : ∃ q, w1 = wr.drewN q) : Rs w0 w1 va vw ws wd := by
  obtain ⟨q, rfl⟩ := hq
  exact ⟨h.a, h.b, h.n.trans ⟨rfl, rfl, rfl, Nat.le_refl _, fun _ _ => rfl⟩⟩

theorem Rs.words {w0 wr w1 : World} {va vw v' : Value} {ws ns : List ByteArray} {wd : List UInt8} (h : Rs w0 wr va vw ws wd) (hg : wr.grownBy w1 va.ownBlock)
    (ho : w1.ownsRow w0.heap.size 9 1 v' (ws.length + ns.length) (ws.map Value.string ++ ns.map Value.string)) : Rs w0 w1 v' vw (ws ++ ns) wd := by
  refine ⟨?_, World.ownsRow.kept h.b hg (Rw.apart h.b h.a (by decide)), h.n.grown hg h.n.size (fun k hk => (World.ownsRow.lt h.a k hk).1)⟩
  unfold OwnsW
  rw [List.length_append, List.map_append]
  exact ho

theorem Rs.bytes {w0 wr w1 : World} {va vw v' : Value} {ws : List ByteArray} {wd nd : List UInt8} (h : Rs w0 wr va vw ws wd) (hg : wr.grownBy w1 vw.ownBlock)
    (ho : w1.ownsRow w0.heap.size 5 1 v' (wd.length + nd.length) (wd.map bcell ++ nd.map bcell)) : Rs w0 w1 va v' ws (wd ++ nd) := by
  refine ⟨World.ownsRow.kept h.a hg (Rw.apart h.a h.b (by decide)), ?_, h.n.grown hg h.n.size (fun k hk => (World.ownsRow.lt h.b k hk).1)⟩
  unfold OwnsB
  rw [List.length_append, List.map_append]
  exact ho

section
variable {ops : Array Oper} {rest : List Oper} {o : Oper} {a : Act} {Q : Exit → Act → World → Prop}

/-- 'args = append(args, s)' -/
theorem Rw.addWord (hgd : o.guard = Option.none) (s x : Operand) (ho : o.op = .call { callee := .builtin .append, args := #[s, x], argTypes := #[23, 23] }) (w0 W : World) (va vw : Value) (ws : List ByteArray) (wd : List UInt8) (st : ByteArray)
    (hs : a.eval s = va) (hx : a.eval x = .slice (some ⟨W.heap.size, 0, Option.none⟩) 1 1) (H : Hid (Rs w0 W va vw ws wd)) (hl : ws.length ≤ 16777216)
    (h : ∀ v' W', Hid (Rs w0 W' v' vw (ws ++ [st]) wd) → Keeps 37 W W' → wpList Try.prog ops Q rest (a.put o.dst v') W') :
    wpList Try.prog ops Q (o :: rest) a (W.alloc (.cells #[.string st] 9)) := by
  obtain ⟨i, hi, hz0, hz1, hz2⟩ := info_parts Try.info9
  have H1 := H.out.alloc (.cells #[.string st] 9)
  refine wpList_append_own _ hgd s x 23 ho w0.heap.size 9 i (.string ⟨#[]⟩) 1 16 Try.underlying23 hi hz0 hz1 hz2 rfl (by decide) va ws.length (ws.map Value.string) hs H1.a ⟨W.heap.size, 0, Option.none⟩ 1 1 [.string st] hx rfl (cell_one_new _ _ _) (by simp [Value.oneCell']) (by unfold maxLen; omega) (by omega) H1.n.size ?_
  intro v' w' h1 h2 _
  refine h v' w' (H1.words (ns := [st]) h2 h1) (fun g cs hg => Rw.block H1.a ?_ (by decide) h2)
  rw [Below.heap_alloc _ _ _ (Array.getElem?_eq_some_iff.1 hg).1]
  exact hg

/-- 'args = append(args, s, t)' -/
theorem Rw.addWords (hgd : o.guard = Option.none) (s x : Operand) (ho : o.op = .call { callee := .builtin .append, args := #[s, x], argTypes := #[23, 23] }) (w0 W : World) (va vw : Value) (ws : List ByteArray) (wd : List UInt8) (st su : ByteArray)
    (hs : a.eval s = va) (hx : a.eval x = .slice (some ⟨W.heap.size, 0, Option.none⟩) 2 2) (H : Hid (Rs w0 W va vw ws wd)) (hl : ws.length ≤ 16777216)
    (h : ∀ v' W', Hid (Rs w0 W' v' vw (ws ++ [st, su]) wd) → Keeps 37 W W' → wpList Try.prog ops Q rest (a.put o.dst v') W') :
    wpList Try.prog ops Q (o :: rest) a (W.alloc (.cells #[.string st, .string su] 9)) := by
  obtain ⟨i, hi, hz0, hz1, hz2⟩ := info_parts Try.info9
  have H1 := H.out.alloc (.cells #[.string st, .string su] 9)
  refine wpList_append_own _ hgd s x 23 ho w0.heap.size 9 i (.string ⟨#[]⟩) 1 16 Try.underlying23 hi hz0 hz1 hz2 rfl (by decide) va ws.length (ws.map Value.string) hs H1.a ⟨W.heap.size, 0, Option.none⟩ 2 2 [.string st, .string su] hx rfl (cell_two_new _ _ _ _) (by simp [Value.oneCell']) (by unfold maxLen; omega) (by omega) H1.n.size ?_
  intro v' w' h1 h2 _
  refine h v' w' (H1.words (ns := [st, su]) h2 h1) (fun g cs hg => Rw.block H1.a ?_ (by decide) h2)
  rw [Below.heap_alloc _ _ _ (Array.getElem?_eq_some_iff.1 hg).1]
  exact hg

/-- 'word = append(word, c)' -/
theorem Rw.addByte (hgd : o.guard = Option.none) (s x : Operand) (ho : o.op = .call { callee := .builtin .append, args := #[s, x], argTypes := #[31, 31] }) (w0 W : World) (va vw : Value) (ws : List ByteArray) (wd : List UInt8) (c : UInt8)
    (hs : a.eval s = vw) (hx : a.eval x = .slice (some ⟨W.heap.size, 0, Option.none⟩) 1 1) (H : Hid (Rs w0 W va vw ws wd)) (hl : wd.length ≤ 16777216)
    (h : ∀ v' W', Hid (Rs w0 W' va v' ws (wd ++ [c])) → Keeps 37 W W' → wpList Try.prog ops Q rest (a.put o.dst v') W') :
    wpList Try.prog ops Q (o :: rest) a (W.alloc (.cells #[.int .u8 c.toNat] 5)) := by
  obtain ⟨i, hi, hz0, hz1, hz2⟩ := info_parts Try.info5
  have H1 := H.out.alloc (.cells #[.int .u8 c.toNat] 5)
  refine wpList_append_own _ hgd s x 31 ho w0.heap.size 5 i (.int .u8 0) 1 1 Try.underlying31 hi hz0 hz1 hz2 rfl (by decide) vw wd.length (wd.map bcell) hs H1.b ⟨W.heap.size, 0, Option.none⟩ 1 1 [.int .u8 c.toNat] hx rfl (cell_one_new _ _ _) (by simp [Value.oneCell']) (by unfold maxLen; omega) (by omega) H1.n.size ?_
  intro v' w' h1 h2 _
  refine h v' w' (H1.bytes (nd := [c]) h2 h1) (fun g cs hg => Rw.block H1.b ?_ (by decide) h2)
  rw [Below.heap_alloc _ _ _ (Array.getElem?_eq_some_iff.1 hg).1]
  exact hg

/-- 'word = append(word, 45)' -/
theorem Rw.addDash (hgd : o.guard = Option.none) (s x : Operand) (ho : o.op = .call { callee := .builtin .append, args := #[s, x], argTypes := #[31, 31] }) (w0 W : World) (va vw : Value) (ws : List ByteArray) (wd : List UInt8)
    (hs : a.eval s = vw) (hx : a.eval x = .slice (some ⟨W.heap.size, 0, Option.none⟩) 1 1) (H : Hid (Rs w0 W va vw ws wd)) (hl : wd.length ≤ 16777216)
    (h : ∀ v' W', Hid (Rs w0 W' va v' ws (wd ++ [45])) → Keeps 37 W W' → wpList Try.prog ops Q rest (a.put o.dst v') W') :
    wpList Try.prog ops Q (o :: rest) a (W.alloc (.cells #[.int .u8 45] 5)) := by
  obtain ⟨i, hi, hz0, hz1, hz2⟩ := info_parts Try.info5
  have H1 := H.out.alloc (.cells #[.int .u8 45] 5)
  refine wpList_append_own _ hgd s x 31 ho w0.heap.size 5 i (.int .u8 0) 1 1 Try.underlying31 hi hz0 hz1 hz2 rfl (by decide) vw wd.length (wd.map bcell) hs H1.b ⟨W.heap.size, 0, Option.none⟩ 1 1 [.int .u8 45] hx rfl (cell_one_new _ _ _) (by simp [Value.oneCell']) (by unfold maxLen; omega) (by omega) H1.n.size ?_
  intro v' w' h1 h2 _
  refine h v' w' (H1.bytes (nd := [45]) h2 h1) (fun g cs hg => Rw.block H1.b ?_ (by decide) h2)
  rw [Below.heap_alloc _ _ _ (Array.getElem?_eq_some_iff.1 hg).1]
  exact hg

/-- 'word = append(word, s...)' -/
theorem Rw.addText (hgd : o.guard = Option.none) (s x : Operand) (ho : o.op = .call { callee := .builtin .append, args := #[s, x], argTypes := #[31, 9] }) (w0 W : World) (va vw : Value) (ws : List ByteArray) (wd : List UInt8) (st : ByteArray)
    (hs : a.eval s = vw) (hx : a.eval x = .string st) (H : Hid (Rs w0 W va vw ws wd)) (hl : wd.length ≤ 16777216) (hst : st.size ≤ 16777216)
    (h : ∀ v' W', Hid (Rs w0 W' va v' ws (wd ++ B st)) → Keeps 37 W W' → wpList Try.prog ops Q rest (a.put o.dst v') W') :
    wpList Try.prog ops Q (o :: rest) a W := by
  obtain ⟨i, hi, hz0, hz1, hz2⟩ := info_parts Try.info5
  have H1 := H.out
  refine Lib.wpList_append_own_string _ hgd s x 31 9 ho w0.heap.size 5 i Try.underlying31 Try.underlying9 hi hz0 hz1 hz2 vw wd.length (wd.map bcell) hs H1.b st hx (by unfold maxLen; omega) (by omega) H1.n.size ?_
  intro v' w' h1 h2 _
  refine h v' w' (H1.bytes (nd := B st) h2 ?_) (fun g cs hg => Rw.block H1.b hg (by decide) h2)
  rw [B_length]
  exact h1
end

/-- 'string(word)' -/
theorem Rw.convert {base : Nat} {W : World} {v : Value} {wd : List UInt8} (h : OwnsB base W v wd) : (convert 31 9 v).run Try.prog W = .ok (.string (Str wd)) W := by
  rcases h.2 with ⟨rfl, hn⟩ | ⟨g, cap, cur, rfl, _, hg, _, _, hcs, ht⟩
  · obtain rfl : wd = [] := List.eq_nil_of_length_eq_zero hn
    exact run_convert_bytes_nil W 31 5 Try.underlying31 Try.underlying5 0 0 9 Try.underlying9
  · have hc := run_convert_bytes_arg (P := Try.prog) W 31 5 Try.underlying31 Try.underlying5 g 0 wd.length cap (wd.map fun b => (b.toNat : Int)) (by simp) (fun i hi => by
      have := World.ownsRow.cellAt h i (by omega)
      rw [Nat.zero_add, this]
      simp [bcell, List.getD, List.getElem?_eq_getElem hi]) 9 Try.underlying9
    rw [hc]
    congr 2
    apply ByteArray.ext
    simp only [strOfNums, Str, List.map_map]
    congr 1
    conv => rhs; rw [← List.map_id wd]
    apply List.map_congr_left
    intro x _
    simp

/-- 'word[:0]' -/
theorem Rw.empty {w0 W : World} {va vw : Value} {ws : List ByteArray} {wd : List UInt8} (h : Rs w0 W va vw ws wd) :
    ∃ v0, (Instr.slice 31 vw Option.none (some (.int .i64 0)) Option.none).run Try.prog W = .ok v0 W ∧ Rs w0 W va v0 ws [] := by
  have ht : Try.prog.underlying 31 = some (.slice (Try.prog.elem 31)) := by simp [Program.elem, Try.underlying31]
  have e1 : Try.prog.elem 31 = 5 := by simp [Program.elem, Try.underlying31]
  have e3 : ∀ w, (Go.sizeOf 5).run Try.prog w = .ok 1 w := Try.sizeOf5
  rcases h.b.2 with ⟨rfl, hn⟩ | ⟨g, cap, cur, rfl, hb, hg, hnc, hcm, hcs, ht'⟩
  · refine ⟨.slice Option.none 0 0, ?_, h.a, ⟨by simp, .inl ⟨rfl, rfl⟩⟩, h.n⟩
    simp [go_sem, Try.underlying31, e3]
  · refine ⟨.slice (some ⟨g, 0, Option.none⟩) 0 cap, ?_, h.a, ⟨by simp, .inr ⟨g, cap, cur, rfl, hb, hg, Nat.zero_le _, hcm, hcs, by simp⟩⟩, h.n⟩
    simp [go_sem, Try.underlying31, e3]

end Go.Proofs.Qxb6601022a
