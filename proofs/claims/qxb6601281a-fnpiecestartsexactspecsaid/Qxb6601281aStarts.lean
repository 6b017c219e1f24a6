import Derived.Test.Qxb6601281aRows
import Derived.Test.Qxb6601281aPlain
import Derived.Test.Qxb6601281aShelf
import Derived.WalkKit
import Derived.WalkLawsBesides
import Derived.WalkSpells
import Derived.Deep.QuietTactic
import Derived.BigQuiet
import Derived.OwnWalk
namespace Go.Proofs.Qxb6601281a
open Go.RowKit Go.Proofs.Qxb6601281a.Pl

/-- the data: nil, or a row of bytes -/
def DataV (w : World) (a : Option Addr) (c : Nat) (dl : List UInt8) : Prop :=
  (a = none ∧ c = 0 ∧ dl = []) ∨ ∃ b off, a = some ⟨b, off, none⟩ ∧ dl.length ≤ c ∧ ∀ i (h : i < dl.length), w.cell? ⟨b, off + i, none⟩ = some (.int .u8 dl[i].toNat)

theorem DataV.below {w w' : World} {a : Option Addr} {c : Nat} {dl : List UInt8} (h : DataV w a c dl) (hb : Below w.heap.size w w') : DataV w' a c dl := by
  rcases h with h | ⟨b, off, ha, hc, h⟩
  · exact .inl h
  · exact .inr ⟨b, off, ha, hc, fun i hi => (hb.cell (p := ⟨b, off + i, none⟩) (World.block_lt_of_cell? w _ (h i hi))).trans (h i hi)⟩

theorem bytesOf_map (l : List UInt8) : Lib.bytesOf (l.map fun b => (b.toNat : Int)) = l := by
  unfold Lib.bytesOf
  rw [List.map_map]
  conv => rhs; rw [← List.map_id l]
  apply List.map_congr_left
  intro x _
  simp

theorem Ps.index_row (w : World) (b off c : Nat) (dl : List UInt8) (m : Nat) (x : Int) (r : Int) (hm : dl.length = m) (hr : Hid (Lib.indexByte dl x.toNat.toUInt8 = r)) (h : Hid (∀ i (h : i < dl.length), w.cell? ⟨b, off + i, none⟩ = some (.int .u8 dl[i].toNat))) :
    Calls Try.prog 9 #[.slice (some ⟨b, off, none⟩) m c, .int .u8 x] w fun e w' => e = .returned (.int .i64 r) ∧ w' = w := by
  refine (Try.bytes_IndexByte b off m c (dl.map fun b => (b.toNat : Int)) x w (by simpa using hm) (fun i hi => ?_)).mono fun e w' hh => ⟨?_, hh.2⟩
  · rw [h.out i (by omega)]
    simp [List.getD, List.getElem?_eq_getElem (show i < dl.length by omega)]
  · rw [hh.1, bytesOf_map, hr.out]

theorem Ps.index (w : World) (a : Option Addr) (c : Nat) (dl : List UInt8) (x : Int) (r : Int) (hr : Hid (Lib.indexByte dl x.toNat.toUInt8 = r)) (h : Hid (DataV w a c dl)) :
    Calls Try.prog 9 #[.slice a dl.length c, .int .u8 x] w fun e w' => e = .returned (.int .i64 r) ∧ w' = w := by
  rcases h.out with ⟨rfl, rfl, rfl⟩ | ⟨b, off, rfl, _, h⟩
  · refine (Try.bytes_IndexByte_nil x w).mono fun e w' hh => ⟨?_, hh.2⟩
    rw [hh.1, ← hr.out]; rfl
  · exact Ps.index_row w b off c dl _ x r rfl hr h

def icell (n : Nat) : Value := .int .i64 n

def lenOf : Value → Nat | .slice _ n _ => n | _ => 0

/-- v owns the numbers r -/
def OwnsI (base : Nat) (w : World) (v : Value) (r : List Nat) : Prop := w.ownsRow base 3 1 v r.length (r.map icell)

structure Rs (w0 wr : World) (v : Value) (r : List Nat) : Prop where
  a : OwnsI w0.heap.size wr v r
  n : Below w0.heap.size w0 wr

theorem Try.info3 : (Try.prog.info? 3).map (fun i => (i.zero, i.size, i.bytes)) = some (some (.int .i64 0), 1, 8) := by kernel_rfl

theorem Rs.one (w : World) : Rs w (w.alloc (.cells #[.int .i64 0] 3)) (.slice (some ⟨w.heap.size, 0, none⟩) 1 1) [0] :=
  ⟨World.ownsRow_lit (e := 3) (size := 1) w #[.int .i64 0] 1 (Nat.le_refl _) (by unfold maxLen; omega) rfl, (Below.refl _ _).alloc (Nat.le_refl _) _⟩

theorem Rs.alloc {w0 wr : World} {v : Value} {r : List Nat} (h : Rs w0 wr v r) (o : Obj) : Rs w0 (wr.alloc o) v r :=
  ⟨World.ownsRow.alloc h.a o, h.n.alloc h.n.size o⟩

/-- the row as a slice, and its cells -/
theorem Rs.seen {w0 wr : World} {v : Value} {r : List Nat} (h : Rs w0 wr v r) (hp : 0 < r.length) : ∃ g cap, v = .slice (some ⟨g, 0, none⟩) r.length cap ∧ w0.heap.size ≤ g ∧ g < wr.heap.size ∧ ∀ i (_ : i < r.length), wr.cell? ⟨g, i, none⟩ = some (.int .i64 (r[i] : Int)) := by
  rcases h.a.2 with ⟨_, hn⟩ | ⟨g, cap, cur, rfl, hb, hg, hnc, _⟩
  · omega
  · refine ⟨g, cap, rfl, hb, (Array.getElem?_eq_some_iff.1 hg).1, fun i hi => ?_⟩
    have := World.ownsRow.cellAt h.a i (by omega)
    rw [this]
    simp [List.getElem?_eq_getElem hi, icell]

section
variable {ops : Array Oper} {rest : List Oper} {o : Oper} {a : Act} {Q : Exit → Act → World → Prop}
/-- 'starts = append(starts, x)' -/
theorem Ps.add (hgd : o.guard = none) (s x : Operand) (ho : o.op = .call { callee := .builtin .append, args := #[s, x], argTypes := #[24, 24] }) (w0 W : World) (v : Value) (r : List Nat) (q : Nat) (qi : Int)
    (hs : a.eval s = v) (hx : a.eval x = .slice (some ⟨W.heap.size, 0, none⟩) 1 1) (hq : Hid (qi = q)) (H : Hid (Rs w0 W v r)) (hl : r.length ≤ 16777216)
    (h : ∀ v' W', Hid (Rs w0 W' v' (r ++ [q])) → wpList Try.prog ops Q rest (a.put o.dst v') W') :
    wpList Try.prog ops Q (o :: rest) a (W.alloc (.cells #[.int .i64 qi] 3)) := by
  obtain rfl := hq.out
  obtain ⟨i, hi, hz0, hz1, hz2⟩ := info_parts Try.info3
  have H1 := H.out.alloc (.cells #[.int .i64 (q : Int)] 3)
  refine wpList_append_own _ hgd s x 24 ho w0.heap.size 3 i (.int .i64 0) 1 8 Try.underlying24 hi hz0 hz1 hz2 rfl (by decide) v r.length (r.map icell) hs H1.a ⟨W.heap.size, 0, none⟩ 1 1 [.int .i64 (q : Int)] hx rfl (cell_one_new _ _ _) (by simp [Value.oneCell']) (by unfold maxLen; omega) (by omega) H1.n.size ?_
  intro v' w' h1 h2 _
  refine h v' w' ⟨?_, H1.n.grown h2 H1.n.size (fun k hk => (World.ownsRow.lt H1.a k hk).1)⟩
  unfold OwnsI
  rw [List.length_append, List.map_append]
  exact h1
end

theorem Ps.len {w0 W : World} {v : Value} {r : List Nat} (h : Rs w0 W v r) : lenOf v = r.length := by
  rcases h.a.2 with ⟨rfl, hn⟩ | ⟨g, cap, cur, rfl, _⟩
  · exact hn.symm
  · rfl

theorem Ps.cut (b off n c at_ : Nat) (x : Int) (hx : x = at_) (h : at_ < n) (hc : n ≤ c) : ∀ W, (Instr.slice 22 (.slice (some ⟨b, off, none⟩) n c) (some (.int .i64 x)) none none).run Try.prog W = .ok (.slice (some ⟨b, off + at_, none⟩) (n - at_) (c - at_)) W := by
  intro W
  subst hx
  have ht : Try.prog.underlying 22 = some (.slice (Try.prog.elem 22)) := by simp [Program.elem, Try.underlying22]
  have e1 : Try.prog.elem 22 = 5 := by simp [Program.elem, Try.underlying22]
  have e3 : ∀ w, (Go.sizeOf 5).run Try.prog w = .ok 1 w := Try.sizeOf5
  have := run_slice_l (P := Try.prog) W 22 (some ⟨b, off, none⟩) n c ht .i64 at_ (by omega) (by omega)
  rw [this, e1]
  have h1 : ¬ c = at_ := by omega
  by_cases h0 : at_ = 0
  · subst h0; simp [e3, sliced, Addr.add]
  · simp [e3, sliced, h1, Addr.add, h0]

theorem Ps.cells {w wr : World} {b off : Nat} {dl : List UInt8} (hb : Below w.heap.size w wr) (hd : ∀ i (h : i < dl.length), w.cell? ⟨b, off + i, none⟩ = some (.int .u8 dl[i].toNat)) (m : Nat) :
    ∀ i (h : i < (dl.drop m).length), wr.cell? ⟨b, off + m + i, none⟩ = some (.int .u8 (dl.drop m)[i].toNat) := by
  intro i hi
  have hi' : m + i < dl.length := by simp at hi; omega
  have := hd (m + i) hi'
  rw [show off + m + i = off + (m + i) by omega, hb.cell (p := ⟨b, off + (m + i), none⟩) (World.block_lt_of_cell? w _ this), this]
  simp

set_option maxHeartbeats 400000 in
theorem Ps.quoted (w : World) (a : Option Addr) (c : Nat) (dl : List UInt8) (pieces least : Int) (j : Nat) (hj : Hid (Lib.indexByte dl 34 = j)) (HD : Hid (DataV w a c dl)) :
    Calls Try.prog 8 #[.slice a dl.length c, .int .i64 pieces, .int .i64 least] w fun e w' => ∃ v, e = .returned v ∧ Rs w w' v [0] := by
  go_enter Try.func8, Try.ntmps8
  go_wp2_with fail
  refine (Ps.index _ a c dl 34 j hj (HD.out.below ((Below.refl _ _).alloc (Nat.le_refl _) _))).mono ?_
  rintro e w1 ⟨rfl, hw⟩
  obtain rfl := hw.symm
  go_wp2
  go_ret
  exact ⟨_, rfl, Rs.one w⟩

/-- what pieceStarts leaves -/
def Ps.Post (w : World) (dl : List UInt8) (size : Nat) (pieces : Int) (e : Ending) (w' : World) : Prop :=
  ∃ v r l, e = .returned v ∧ Rs w w' v r ∧ Chain dl size r ∧ r[r.length - 1]? = some l ∧ (r.length : Int) ≤ max pieces 1 ∧ r.length ≤ 1048577 ∧ l ≤ 1048576 ∧ ((r.length : Int) < pieces → Done dl size l)

set_option maxRecDepth 100000 in
set_option maxHeartbeats 1000000 in
theorem Ps.plain (w : World) (a : Option Addr) (c : Nat) (dl : List UInt8) (pieces least : Int) (S : Nat) (hj : Hid (Lib.indexByte dl 34 = -1)) (HD : Hid (DataV w a c dl)) (hl : dl.length ≤ 1048576)
    (HS : Hid (max least ((dl.length : Int) / max pieces 1) = S)) (hS : (S : Int) ≤ 9223372036854775807) :
    Calls Try.prog 8 #[.slice a dl.length c, .int .i64 pieces, .int .i64 least] w fun e w' => Ps.Post w dl S pieces e w' := by
  have hq0 : 0 ≤ (dl.length : Int) / max pieces 1 := Int.ediv_nonneg (by omega) (by omega)
  have hq1 : (dl.length : Int) / max pieces 1 ≤ 1048576 := by
    have := Int.ediv_le_self (a := (dl.length : Int)) (max pieces 1) (by omega)
    omega
  go_enter Try.func8, Try.ntmps8
  go_wp2_with fail
  refine (Ps.index _ a c dl 34 (-1) hj (HD.out.below ((Below.refl _ _).alloc (Nat.le_refl _) _))).mono ?_
  rintro e w1 ⟨rfl, hw⟩
  obtain rfl := hw.symm
  go_wp2
  rw [HS.out]
  clear hq0 hq1 hw
  go_loopw [7] (fun v wr => ∃ (r : List Nat) (l : Nat), lenOf v = r.length ∧ Hid (Rs w wr v r) ∧ Hid (Chain dl S r) ∧ Hid (r[r.length - 1]? = some l) ∧ 1 ≤ r.length ∧ (r.length : Int) ≤ max pieces 1 ∧ r.length ≤ l + 1 ∧ (l = 0 ∨ l < dl.length ∧ S < dl.length))
    (fun v _ => 1048600 - lenOf v)
  case atStart => exact ⟨[0], 0, rfl, Rs.one w, chain_one dl S, rfl, by simp, by simp; omega, by simp, .inl rfl⟩
  case round =>
    obtain ⟨r, l, hlen, HR, HC, HL, hr1, hr2, hr3, hlS⟩ := hrel
    obtain ⟨g, cap, rfl, hgB, hgs, hcell⟩ := HR.out.seen (by omega)
    have hlb : l ≤ 1048576 := by omega
    by_cases hlt : (r.length : Int) < pieces
    · have hcl : wr.cell? ⟨g, r.length - 1, none⟩ = some (.int .i64 (l : Int)) := by
        rw [hcell (r.length - 1) (by omega)]
        have := HL.out
        rw [List.getElem?_eq_getElem (by omega)] at this
        rw [Option.some.inj this]
      clear hcell
      have hat : (l : Int) + S ≤ 9223372036854775807 := by omega
      by_cases hfar : (dl.length : Int) ≤ l + S
      · go_wp2
        go_ret
        exact ⟨_, r, l, rfl, HR.out, HC.out, HL.out, hr2, by omega, hlb, fun _ => done_far (by omega)⟩
      · obtain ⟨b, off, rfl, hc, hd⟩ : ∃ b off, a = some ⟨b, off, none⟩ ∧ dl.length ≤ c ∧ ∀ i (h : i < dl.length), w.cell? ⟨b, off + i, none⟩ = some (.int .u8 dl[i].toNat) := by
          rcases HD.out with ⟨_, _, h⟩ | h
          · subst h; simp at hfar; omega
          · exact h
        have hsl := Ps.cut b off dl.length c (l + S) ((l : Int) + (S : Int)) (by omega) (by omega) hc
        have HW : Hid (∀ i (h : i < (dl.drop (l + S)).length), wr.cell? ⟨b, off + (l + S) + i, none⟩ = some (.int .u8 (dl.drop (l + S))[i].toNat)) := Ps.cells HR.out.n hd (l + S)
        have hdl : (dl.drop (l + S)).length = dl.length - (l + S) := by simp
        have hgi := Lib.indexByte_ge (dl.drop (l + S)) 10
        have hc' : l + S < c := by omega
        clear hd hc
        by_cases hno : Lib.indexByte (dl.drop (l + S)) 10 = -1
        · have HNo : Hid (Lib.indexByte (dl.drop (l + S)) 10 = -1) := hno
          have HDl : Hid ((dl.drop (l + S)).length = dl.length - (l + S)) := hdl
          clear hno hgi hdl
          go_wp2_with fail
          refine (Ps.index_row _ b (off + (l + S)) (c - (l + S)) (dl.drop (l + S)) _ 10 (-1) HDl.out HNo HW).mono ?_
          rintro e w2 ⟨rfl, hw2⟩
          obtain rfl := hw2.symm
          clear hw2
          go_wp2
          go_ret
          exact ⟨_, r, l, rfl, HR.out, HC.out, HL.out, hr2, by omega, hlb, fun _ => done_none HNo.out⟩
        · obtain ⟨k, hk⟩ : ∃ k : Nat, Lib.indexByte (dl.drop (l + S)) 10 = k := ⟨(Lib.indexByte (dl.drop (l + S)) 10).toNat, by omega⟩
          have hkl : l + S + k < dl.length := by
            have := (Lib.indexByte_some hk).1
            rcases Nat.lt_or_ge k (dl.drop (l + S)).length with h1 | h1
            · omega
            · rw [List.getElem?_eq_none h1] at this; cases this
          have HK : Hid (Lib.indexByte (dl.drop (l + S)) 10 = (k : Int)) := hk
          have HDl : Hid ((dl.drop (l + S)).length = dl.length - (l + S)) := hdl
          clear hno hgi hk hdl
          by_cases hend : (dl.length : Int) ≤ l + S + k + 1
          · go_wp2_with fail
            refine (Ps.index_row _ b (off + (l + S)) (c - (l + S)) (dl.drop (l + S)) _ 10 k HDl.out HK HW).mono ?_
            rintro e w2 ⟨rfl, hw2⟩
            obtain rfl := hw2.symm
            clear hw2
            go_wp2
            go_ret
            exact ⟨_, r, l, rfl, HR.out, HC.out, HL.out, hr2, by omega, hlb, fun _ => done_end HK.out (by omega)⟩
          · go_wp2_with fail
            refine (Ps.index_row _ b (off + (l + S)) (c - (l + S)) (dl.drop (l + S)) _ 10 k HDl.out HK HW).mono ?_
            rintro e w2 ⟨rfl, hw2⟩
            obtain rfl := hw2.symm
            clear hw2
            have HQ : Hid ((l : Int) + S + k + 1 = ((l + S + k + 1 : Nat) : Int)) := by show (_ : Int) = _; omega
            go_wp2_with (at_builtin; go_must (refine Ps.add rfl (.tmp 54) (.tmp 59) rfl w wr (.slice (some ⟨g, 0, none⟩) r.length cap) r (l + S + k + 1) ((l : Int) + (S : Int) + (k : Int) + 1) rfl rfl HQ HR (by omega) ?_))
            intro v2 w2 HR2
            go_wp2
            go_roundw
            case rel => exact ⟨r ++ [l + S + k + 1], l + S + k + 1, Ps.len HR2.out, HR2, chain_snoc HC.out HL.out (step_of HK.out (by omega)), last_snoc _ _, by simp, by simp; omega, by simp; omega, .inr ⟨by omega, by omega⟩⟩
            case measure => rw [Ps.len HR2.out]; simp [lenOf]; omega
    · clear hcell
      go_wp2
      go_ret
      exact ⟨_, r, l, rfl, HR.out, HC.out, HL.out, hr2, by omega, hlb, fun h => absurd h (by omega)⟩

end Go.Proofs.Qxb6601281a
