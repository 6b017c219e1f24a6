import Derived.Test.Qxb6605634aSizes
import Derived.Lib.ConvBytes
import Derived.Lib.AppendStr
import Derived.OwnWalk
import Derived.Laws.BytesArg
namespace Go.Proofs.Qxb6605634a
open Go.RowKit Go.Proofs.Qxb6605634a.Pl

/-- the row of bytes at block g -/
def CellsAt (w : World) (g : Nat) (l : List UInt8) : Prop := ∀ i (h : i < l.length), w.cell? ⟨g, i, none⟩ = some (.int .u8 l[i].toNat) ∧ w.frozen? ⟨g, i, none⟩ = false

theorem CellsAt.start (w : World) (s : ByteArray) : CellsAt (Lib.bytesWorld w 5 s) w.heap.size (B s) := by
  intro i hi
  have hi' : i < s.size := by rw [← B_length]; exact hi
  refine ⟨?_, ?_⟩
  · rw [Lib.bytesWorld_cell w 5 s i hi']
    simp [List.getD, List.getElem?_eq_getElem hi]
  · have hz : s.size ≤ (Lib.bytesCells w 5 s).size := by simp [Lib.bytesCells]
    simp only [World.frozen?, Lib.bytesWorld_at_new]
    simp
    omega

theorem Below.conv (w : World) (s : ByteArray) : Below w.heap.size w (Lib.bytesWorld w 5 s) :=
  ⟨rfl, rfl, rfl, by rw [Lib.bytesWorld_size]; omega, fun k hk => Lib.bytesWorld_at_old w 5 s k hk⟩

theorem CellsAt.set {w : World} {g : Nat} {l : List UInt8} (h : CellsAt w g l) (i : Nat) (hi : i < l.length) (b : UInt8) : CellsAt (w.setCell ⟨g, i, none⟩ (.int .u8 b.toNat)) g (l.set i b) := by
  intro j hj
  have hj' : j < l.length := by simpa using hj
  refine ⟨?_, by rw [World.frozen?_setCell]; exact (h j hj').2⟩
  by_cases e : i = j
  · subst e
    rw [World.cell?_setCell_same _ _ _ (h i hi).1]
    simp
  · rw [World.cell?_setCell_other _ _ _ _ (by intro h; injection h with _ h2; exact e h2), (h j hj').1]
    simp [e]

/-- behind t nines -/
def Ic.Cur (l : List UInt8) (T : Nat) : List UInt8 := l.take T ++ List.replicate (l.length - T) 48

theorem Ic.cur_len (l : List UInt8) (T : Nat) (h : T ≤ l.length) : (Ic.Cur l T).length = l.length := by
  simp [Ic.Cur]; omega

theorem Ic.cur_at (l : List UInt8) (T i : Nat) (hT : T ≤ l.length) (hi : i < T) : (Ic.Cur l T)[i]'(by rw [Ic.cur_len l T hT]; omega) = l[i] := by
  unfold Ic.Cur
  rw [List.getElem_append_left (by simp; omega)]
  simp

theorem Ic.cur_step (l : List UInt8) (T : Nat) (hT : T + 1 ≤ l.length) : (Ic.Cur l (T + 1)).set T 48 = Ic.Cur l T := by
  unfold Ic.Cur
  apply List.ext_getElem?
  intro j
  rw [List.getElem?_set]
  by_cases e : T = j
  · subst e
    rw [if_pos rfl, if_pos (by simp; omega), List.getElem?_append_right (by simp; omega)]
    have h2 : min T l.length = T := by omega
    simp [List.getElem?_replicate, h2]
    omega
  · rw [if_neg e]
    simp only [List.getElem?_append, List.length_take, List.getElem?_take, List.getElem?_replicate]
    have h1 : min (T + 1) l.length = T + 1 := by omega
    have h2 : min T l.length = T := by omega
    rw [h1, h2]
    by_cases h3 : j < T
    · rw [if_pos (by omega), if_pos (by omega), if_pos h3, if_pos h3]
    · rw [if_neg (by omega), if_neg h3]
      by_cases h4 : j < l.length
      · rw [if_pos (by omega), if_pos (by omega)]
      · rw [if_neg (by omega), if_neg (by omega)]

/-- the last ones are nines -/
def Ic.Tail (l : List UInt8) (T : Nat) : Prop := ∀ j, j < l.length - T → l[l.length - 1 - j]? = some 57

theorem Ic.tail_step {l : List UInt8} {T : Nat} (h : Ic.Tail l (T + 1)) (hT : T + 1 ≤ l.length) (h9 : l[T]? = some 57) : Ic.Tail l T := by
  intro j hj
  by_cases e : j < l.length - (T + 1)
  · exact h j e
  · rw [show l.length - 1 - j = T by omega]; exact h9

theorem Ic.done {l : List UInt8} {T : Nat} (h : Ic.Tail l (T + 1)) (hT : T + 1 ≤ l.length) (h9 : l[T]? ≠ some 57) : tn l = l.length - (T + 1) :=
  tn_of ⟨by omega, h, fun _ => by rw [show l.length - 1 - (l.length - (T + 1)) = T by omega]; exact h9⟩

theorem Ic.all {l : List UInt8} (h : Ic.Tail l 0) : tn l = l.length := tn_of ⟨Nat.le_refl _, fun j hj => h j (by omega), fun h => by omega⟩

theorem Ic.result {l : List UInt8} {T : Nat} (h : tn l = l.length - (T + 1)) (hT : T + 1 ≤ l.length) : (Ic.Cur l (T + 1)).set T (l[T] + 1) = inc l (tn l) := by
  unfold inc
  rw [if_neg (by omega), h, show l.length - (l.length - (T + 1)) - 1 = T by omega]
  have e1 : l.getD T 0 = l[T] := by simp [List.getD, List.getElem?_eq_getElem (show T < l.length by omega)]
  rw [e1]
  unfold Ic.Cur
  rw [List.set_append_left _ _ (by simp; omega), List.take_succ_eq_append_getElem (by omega)]
  rw [List.set_append_right _ _ (by simp; omega)]
  have h2 : min T l.length = T := by omega
  simp [List.append_assoc, h2]

theorem Ic.conv {w : World} {g c : Nat} {l : List UInt8} (h : CellsAt w g l) : (convert 102 9 (.slice (some ⟨g, 0, none⟩) l.length c)).run Try.prog w = .ok (.string (Str l)) w := by
  have hc := run_convert_bytes_arg (P := Try.prog) w 102 5 Try.underlying102 Try.underlying5 g 0 l.length c (l.map fun b => (b.toNat : Int)) (by simp) (fun i hi => by
    rw [Nat.zero_add, (h i hi).1]
    simp [List.getD, List.getElem?_eq_getElem hi]) 9 Try.underlying9
  have e : strOfNums (l.map fun b => (b.toNat : Int)) = Str l := by
    unfold strOfNums Str
    rw [List.map_map]
    have : l.map ((fun n : Int => UInt8.ofNat n.toNat) ∘ fun b : UInt8 => (b.toNat : Int)) = l := by
      conv => rhs; rw [← List.map_id l]
      apply List.map_congr_left
      intro x _
      simp
    rw [this]
  rw [hc, e]

def ucell (b : UInt8) : Value := .int .u8 b.toNat

theorem Ic.zeroed {w : World} {g : Nat} {l : List UInt8} {T : Nat} (h : CellsAt w g (Ic.Cur l (T + 1))) (hT : T + 1 ≤ l.length) : Hid (CellsAt (w.setCell ⟨g, T, none⟩ (.int .u8 48)) g (Ic.Cur l T)) := by
  have h1 := h.set T (by rw [Ic.cur_len l (T + 1) hT]; omega) 48
  rw [Ic.cur_step l T hT] at h1
  exact h1

theorem CellsAt.begin (w : World) (s : ByteArray) : Hid (CellsAt (Lib.bytesWorld w 5 s) w.heap.size (Ic.Cur (B s) s.size)) := by
  have e : Ic.Cur (B s) s.size = B s := by
    unfold Ic.Cur
    rw [B_length, Nat.sub_self, List.take_of_length_le (by rw [B_length]; omega)]
    simp
  rw [e]
  exact CellsAt.start w s

theorem Ic.not9 {s : ByteArray} {T : Nat} {h : T < (B s).length} {b : UInt8} (hb : b = (B s)[T]) (h9 : b.toNat < 57) : (B s)[T]? ≠ some 57 := by
  rw [List.getElem?_eq_getElem h, ← hb]
  intro e
  rw [Option.some.inj e] at h9
  simp at h9

theorem Ic.is9 {s : ByteArray} {T : Nat} {h : T < (B s).length} {b : UInt8} (hb : b = (B s)[T]) (h9 : b.toNat = 57) : (B s)[T]? = some 57 := by
  rw [List.getElem?_eq_getElem h, ← hb]
  congr 1
  exact UInt8.toNat_inj.1 h9

theorem Ic.ret_all {s : ByteArray} (h : Ic.Tail (B s) 0) : Ending.returned (.string (ByteArray.mk #[49] ++ Str (Ic.Cur (B s) 0))) = .returned (.string (incB s)) := by
  congr 2
  apply B_inj
  unfold incB
  rw [Str_B, Ic.all h]
  unfold inc Ic.Cur Str B
  rw [ByteArray.data_append]
  simp

set_option maxHeartbeats 1000000 in
theorem Ic.walk (s : ByteArray) (w : World) (hs : s.size ≤ 1048576) (hd : Hid (Digits (B s))) :
    Calls Try.prog 68 #[.string s] w fun e w' => e = .returned (.string (incB s)) ∧ Below w.heap.size w w' := by
  have hcv := fun (w : World) => Lib.run_convert_string_bytes (P := Try.prog) w 9 102 5 s Try.underlying9 Try.underlying102 Try.underlying5
  go_enter Try.func68, Try.ntmps68
  go_wp2
  clear hcv
  go_loopw [4] (fun i wr => ∃ T : Nat, T ≤ s.size ∧ i = .int .i64 ((T : Int) - 1) ∧ Hid (CellsAt wr w.heap.size (Ic.Cur (B s) T)) ∧ Hid (Ic.Tail (B s) T) ∧ Hid (Below w.heap.size w wr)) (fun i _ => (intOf i + 1).toNat)
  case atStart => exact ⟨s.size, Nat.le_refl _, rfl, CellsAt.begin w s, (fun j hj => by rw [B_length] at hj; omega), Below.conv w s⟩
  case round =>
    obtain ⟨T, hT, rfl, HC, HT, HB⟩ := hrel
    have hl : (Ic.Cur (B s) T).length = s.size := by rw [Ic.cur_len _ _ (by rw [B_length]; exact hT), B_length]
    cases T with
    | zero =>
      have hcv := Ic.conv (c := grownCap w s.size 0 5) HC.out
      rw [hl] at hcv
      have HL : Hid ((Ic.Cur (B s) 0).length = s.size) := hl
      clear hl
      have hz : (Str (Ic.Cur (B s) 0)).size ≤ 1048576 := by rw [Str_size, HL.out]; exact hs
      go_wp2
      go_ret
      exact ⟨Ic.ret_all HT.out, HB.out⟩
    | succ T =>
      have hTl : T < (B s).length := by rw [B_length]; omega
      obtain ⟨b, hb⟩ : ∃ b, b = (B s)[T] := ⟨_, rfl⟩
      have hd2 := hd.out b (by rw [hb]; exact List.getElem_mem _)
      have hcc := HC.out T (by rw [hl]; omega)
      rw [Ic.cur_at (B s) (T + 1) T (by rw [B_length]; omega) (by omega), ← hb] at hcc
      obtain ⟨hcell, hfro⟩ := hcc
      have HBb : Hid (b = (B s)[T]) := hb
      have HL : Hid ((Ic.Cur (B s) (T + 1)).length = s.size) := hl
      have hgs : w.heap.size < wr.heap.size := World.block_lt_of_cell? wr _ hcell
      clear hb hl
      by_cases h9 : (b.toNat : Int) < 57
      · have HS2 : Hid (CellsAt (wr.setCell ⟨w.heap.size, T, none⟩ (.int .u8 (b + 1).toNat)) w.heap.size (inc (B s) (tn (B s)))) := by
          have := HC.out.set T (by rw [HL.out]; omega) (b + 1)
          rw [HBb.out, Ic.result (Ic.done HT.out (by omega) (Ic.not9 HBb.out (by omega))) (by omega)] at this
          rw [HBb.out]; exact this
        have e1 : ((b + 1).toNat : Int) = (b.toNat : Int) + 1 := by rw [digit_inc (by omega)]; omega
        rw [e1] at HS2
        have hcv := Ic.conv (c := grownCap w s.size 0 5) HS2.out
        have hil : (inc (B s) (tn (B s))).length = s.size := by
          have := HL.out
          rw [← Ic.result (Ic.done HT.out (by omega) (Ic.not9 HBb.out (by omega))) (by omega)]
          simpa using this
        rw [hil] at hcv
        clear hil e1
        go_wp2
        go_ret
        exact ⟨rfl, HB.out.setCell (Nat.le_refl _) _⟩
      · have H9 : Hid ((B s)[T]? = some 57) := Ic.is9 HBb.out (by omega)
        go_wp2
        go_roundw
        case rel => exact ⟨T, by omega, rfl, Ic.zeroed HC.out (by rw [B_length]; omega), Ic.tail_step HT.out (by rw [B_length]; omega) H9.out, HB.out.setCell (Nat.le_refl _) _⟩
        case measure => simp [intOf]

/-- a row of bytes of the call's own -/
structure Rb (w0 wr : World) (v : Value) (l : List UInt8) : Prop where
  b : wr.ownsRow w0.heap.size 5 1 v l.length (l.map ucell)
  n : Below w0.heap.size w0 wr

theorem Rb.alloc {w0 wr : World} {v : Value} {l : List UInt8} (h : Rb w0 wr v l) (o : Obj) : Rb w0 (wr.alloc o) v l :=
  ⟨World.ownsRow.alloc h.b o, h.n.alloc h.n.size o⟩

theorem Try.info5 : (Try.prog.info? 5).map (fun i => (i.zero, i.size, i.bytes)) = some (some (.int .u8 0), 1, 1) := by kernel_rfl

section
variable {ops : Array Oper} {rest : List Oper} {o : Oper} {a : Act} {Q : Exit → Act → World → Prop}
theorem Rb.add (hgd : o.guard = none) (s x : Operand) (ho : o.op = .call { callee := .builtin .append, args := #[s, x], argTypes := #[102, 102] }) (w0 W : World) (v : Value) (l : List UInt8) (c : UInt8) (ci : Int)
    (hs : a.eval s = v) (hx : a.eval x = .slice (some ⟨W.heap.size, 0, none⟩) 1 1) (hc : Hid (ci = c.toNat)) (H : Hid (Rb w0 W v l)) (hl : l.length ≤ 16777216)
    (h : ∀ v' W', Hid (Rb w0 W' v' (l ++ [c])) → wpList Try.prog ops Q rest (a.put o.dst v') W') :
    wpList Try.prog ops Q (o :: rest) a (W.alloc (.cells #[.int .u8 ci] 5)) := by
  obtain rfl := hc.out
  obtain ⟨i, hi, hz0, hz1, hz2⟩ := info_parts Try.info5
  have H1 := H.out.alloc (.cells #[.int .u8 (c.toNat : Int)] 5)
  refine wpList_append_own _ hgd s x 102 ho w0.heap.size 5 i (.int .u8 0) 1 1 Try.underlying102 hi hz0 hz1 hz2 rfl (by decide) v l.length (l.map ucell) hs H1.b ⟨W.heap.size, 0, none⟩ 1 1 [.int .u8 (c.toNat : Int)] hx rfl (cell_one_new _ _ _) (by simp [Value.oneCell']) (by unfold maxLen; omega) (by omega) H1.n.size ?_
  intro v' w' h1 h2 _
  refine h v' w' ⟨?_, H1.n.grown h2 H1.n.size (fun k hk => (World.ownsRow.lt H1.b k hk).1)⟩
  rw [List.length_append, List.map_append]
  exact h1

theorem Rb.addAt (hgd : o.guard = none) (s x : Operand) (ho : o.op = .call { callee := .builtin .append, args := #[s, x], argTypes := #[102, 102] }) (w0 W : World) (v : Value) (l : List UInt8) (c : UInt8) (ci : Int) (g : Nat)
    (hs : a.eval s = v) (hx : a.eval x = .slice (some ⟨g, 0, none⟩) 1 1) (hg : g = W.heap.size) (hc : Hid (ci = c.toNat)) (H : Hid (Rb w0 W v l)) (hl : l.length ≤ 16777216)
    (h : ∀ v' W', Hid (Rb w0 W' v' (l ++ [c])) → wpList Try.prog ops Q rest (a.put o.dst v') W') :
    wpList Try.prog ops Q (o :: rest) a (W.alloc (.cells #[.int .u8 ci] 5)) := by
  subst hg
  exact Rb.add hgd s x ho w0 W v l c ci hs hx hc H hl h

theorem Rb.text (hgd : o.guard = none) (s x : Operand) (ho : o.op = .call { callee := .builtin .append, args := #[s, x], argTypes := #[102, 9] }) (w0 W : World) (v : Value) (l : List UInt8) (st : ByteArray)
    (hs : a.eval s = v) (hx : a.eval x = .string st) (H : Hid (Rb w0 W v l)) (hl : l.length ≤ 16777216) (hst : st.size ≤ 16777216)
    (h : ∀ v' W', Hid (Rb w0 W' v' (l ++ B st)) → wpList Try.prog ops Q rest (a.put o.dst v') W') :
    wpList Try.prog ops Q (o :: rest) a W := by
  obtain ⟨i, hi, hz0, hz1, hz2⟩ := info_parts Try.info5
  have H1 := H.out
  refine Lib.wpList_append_own_string _ hgd s x 102 9 ho w0.heap.size 5 i Try.underlying102 Try.underlying9 hi hz0 hz1 hz2 v l.length (l.map ucell) hs H1.b st hx (by unfold maxLen; omega) (by omega) H1.n.size ?_
  intro v' w' h1 h2 _
  refine h v' w' ⟨?_, H1.n.grown h2 H1.n.size (fun k hk => (World.ownsRow.lt H1.b k hk).1)⟩
  rw [List.length_append, List.map_append, B_length]
  exact h1
end

theorem Rb.conv {w0 W : World} {v : Value} {l : List UInt8} (h : Rb w0 W v l) : (convert 102 9 v).run Try.prog W = .ok (.string (Str l)) W := by
  rcases h.b.2 with ⟨rfl, hn⟩ | ⟨g, cap, cur, rfl, _, hg, _, _, hcs, ht⟩
  · obtain rfl : l = [] := List.eq_nil_of_length_eq_zero hn
    exact run_convert_bytes_nil W 102 5 Try.underlying102 Try.underlying5 0 0 9 Try.underlying9
  · refine Ic.conv (g := g) (l := l) (fun i hi => ⟨?_, World.ownsRow.frozenAt h.b i⟩)
    rw [World.ownsRow.cellAt h.b i (by omega)]
    simp [List.getElem?_eq_getElem hi, ucell]

theorem Zi.make (n : Nat) (hn : n ≤ 1048576) : ∀ w, (Instr.makeSlice 102 (.int .i64 0) (.int .i64 ((n : Int) + 1))).run Try.prog w = .ok (.slice (some ⟨w.heap.size, 0, none⟩) 0 (n + 1)) (w.alloc (.cells (madeCells #[.int .u8 0] (n + 1)) 5)) := by
  intro w
  obtain ⟨i, hi, hz0, hz1, hz2⟩ := info_parts Try.info5
  have h := run_make (P := Try.prog) w 102 5 i _ Try.underlying102 hi hz0 .i64 .i64 0 ((n : Int) + 1) (by omega) (by omega) (by rw [hz2]; omega) (by omega)
  rw [h, hz1]
  have e : ((n : Int) + 1).toNat = n + 1 := by omega
  simp [Value.cells, e]

theorem Rb.made (w : World) (n : Nat) (hn : n ≤ 1048576) : Rb w (w.alloc (.cells (madeCells #[.int .u8 0] (n + 1)) 5)) (.slice (some ⟨w.heap.size, 0, none⟩) 0 (n + 1)) [] :=
  ⟨World.ownsRow_made (e := 5) (size := 1) w _ (n + 1) (Nat.le_refl _) (by unfold maxLen; omega) (by simp [size_madeCells]), (Below.refl _ _).alloc (Nat.le_refl _) _⟩

end Go.Proofs.Qxb6605634a
