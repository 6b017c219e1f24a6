import Derived.Test.Qxb6601281aStarts
import Derived.Laws.CopyOwn
import Derived.Deep.DeepCutAuto
namespace Go.Proofs.Qxb6601281a
open Go.RowKit Go.Proofs.Qxb6601281a.Pl

theorem Tp.wrap {w : World} {a b c : Value} {Q : Value → World → Prop} (h : Calls Try.prog 8 #[a, b, c] w fun e w' => ∃ v, e = .returned v ∧ Q v w') :
    Calls Try.prog 6 #[a, b, c] w fun e w' => ∃ v, e = .returned v ∧ Q v w' := by
  have H : Hid (Calls Try.prog 8 #[a, b, c] w fun e w' => ∃ v, e = .returned v ∧ Q v w') := h
  clear h
  go_enter Try.func6, Try.ntmps6
  go_wp2_with (go_at_call 8; refine H.out.mono ?_; rintro e w1 ⟨v, rfl, hQ⟩)
  go_ret
  exact ⟨v, rfl, hQ⟩

theorem Tp.info5 : (Try.prog.info? 5).map (fun i => (i.zero, i.size, i.bytes)) = some (some (.int .u8 0), 1, 1) := by kernel_rfl

theorem Tp.make5 (n : Nat) (hn : n ≤ 1048576) : ∀ w, (Instr.makeSlice 22 (.int .i64 n) (.int .i64 n)).run Try.prog w = .ok (.slice (some ⟨w.heap.size, 0, none⟩) n n) (w.alloc (.cells (madeCells #[.int .u8 0] n) 5)) := by
  intro w
  obtain ⟨i, hi, hz0, hz1, hz2⟩ := info_parts Tp.info5
  have h := run_make (P := Try.prog) w 22 5 i _ Try.underlying22 hi hz0 .i64 .i64 n n (by omega) (by omega) (by rw [hz2]; omega) (by omega)
  rw [h, hz1]
  simp [Value.cells]

theorem Tp.neq (w : World) (a : Option Addr) (n c : Nat) : (binOp .neq 22 (.slice a n c) (.slice none 0 0)).run Try.prog w = .ok (.bool (!a.isNone)) w := run_neq_slice_nil_any w 22 5 a n c 0 0 Try.underlying22

/-- a slice that came in: nil, or a row of bytes -/
def InV (w : World) (a : Option Addr) (c : Nat) (dl : List UInt8) : Prop :=
  (a = none ∧ c = 0 ∧ dl = []) ∨ ∃ x, a = some x ∧ ∀ i (h : i < dl.length), w.cell? (x.add i) = some (.int .u8 dl[i].toNat)

def ucell (b : UInt8) : Value := .int .u8 b.toNat

theorem Tp.size5 : (Try.prog.info? 5).map (·.size) = some 1 := by kernel_rfl

theorem Tp.made (w : World) (cs : Array Value) : (w.alloc (.cells cs 5)).heap[w.heap.size]? = some (.cells cs.toList.toArray 5 (0, 0)) := by
  rw [Array.toArray_toList]; exact heap_alloc_new w _

theorem Tp.src (w : World) {x : Addr} {dl : List UInt8} {cs : List Value} {o : Obj} (h : ∀ i (h : i < dl.length), w.cell? (x.add i) = some (.int .u8 dl[i].toNat)) (hc : cs = dl.map ucell) : ∀ j v, cs[j]? = some v → (w.alloc o).cell? (x.add j) = some v := by
  intro j v hj
  subst hc
  have hl : j < dl.length := by
    rcases Nat.lt_or_ge j dl.length with h1 | h1
    · exact h1
    · rw [List.getElem?_eq_none (by simpa using h1)] at hj; cases hj
  have h1 := h j hl
  rw [World.cell?_of_block (w := w) (Below.heap_alloc _ _ _ (World.block_lt_of_cell? w _ h1)), h1, ← hj]
  simp [List.getElem?_eq_getElem hl, ucell]

theorem Tp.oneCell {dl : List UInt8} {cs : List Value} (hc : cs = dl.map ucell) : ∀ v ∈ cs, v.oneCell' = true := by
  intro v hv
  subst hc
  simp only [List.mem_map] at hv
  obtain ⟨b, _, rfl⟩ := hv
  rfl

theorem Tp.copied {w2 : World} {g : Nat} {dl : List UInt8} {cs : List Value} (h : w2.heap[g]? = some (.cells (splice (madeCells #[.int .u8 0] dl.length).toList 0 cs).toArray 5 (0, 0))) (hc : cs = dl.map ucell) : Hid (DataV w2 (some ⟨g, 0, none⟩) dl.length dl) := by
  refine .inr ⟨g, 0, rfl, Nat.le_refl _, fun i hi => ?_⟩
  rw [cell_of_row _ _ _ _ _ _ h, hc]
  simp only [splice, List.take_zero, List.nil_append]
  rw [List.getElem?_toArray, List.getElem?_append_left (by simp; omega)]
  simp [List.getElem?_eq_getElem hi, ucell]

theorem DataV.at {w : World} {a : Option Addr} {c : Nat} {dl : List UInt8} (h : DataV w a c dl) {k : Nat} (hk : k < dl.length) : ∃ b off, a = some ⟨b, off, none⟩ ∧ w.cell? ⟨b, off + k, none⟩ = some (.int .u8 dl[k].toNat) := by
  rcases h with ⟨_, _, h⟩ | ⟨b, off, ha, _, h⟩
  · subst h; simp at hk
  · exact ⟨b, off, ha, h k hk⟩

theorem Tp.ne {dl : List UInt8} {k : Nat} {x : UInt8} (h : dl[k]? ≠ some x) (hk : k < dl.length) (n : Int) (hx : (x.toNat : Int) = n) : ((dl[k].toNat : Int) == n) = false := by
  rw [beq_eq_false_iff_ne]
  intro e
  apply h
  rw [List.getElem?_eq_getElem hk]
  congr 1
  apply UInt8.toNat_inj.1
  omega

theorem Tp.eq {dl : List UInt8} {k : Nat} {x : UInt8} (h : dl[k]? = some x) (hk : k < dl.length) (n : Int) (hx : (x.toNat : Int) = n) : ((dl[k].toNat : Int) == n) = true := by
  rw [List.getElem?_eq_getElem hk] at h
  rw [Option.some.inj h, hx]
  simp

theorem Tp.first {w : World} {g : Nat} {r : List Nat} {dl : List UInt8} {S : Nat} (h : ∀ i (_ : i < r.length), w.cell? ⟨g, i, none⟩ = some (.int .i64 (r[i] : Int))) (hc : Chain dl S r) (hr : 0 < r.length) : w.cell? ⟨g, 0, none⟩ = some (.int .i64 0) := by
  rw [h 0 hr]
  have := hc.1
  rw [List.getElem?_eq_getElem hr] at this
  rw [Option.some.inj this]
  rfl

theorem Tp.eq' {dl : List UInt8} {k : Nat} {x : UInt8} (h : dl[k]? = some x) (hk : k < dl.length) (n : Int) (hx : (x.toNat : Int) = n) : ((dl[k].toNat : Int) != n) = false := by
  simp only [bne, Tp.eq h hk n hx]; rfl

theorem Tp.pair {w : World} {g : Nat} {r : List Nat} {dl : List UInt8} {S k : Nat} (h : ∀ i (_ : i < r.length), w.cell? ⟨g, i, none⟩ = some (.int .i64 (r[i] : Int))) (hc : Chain dl S r) (hk1 : 1 ≤ k) (hk : k < r.length) :
    ∃ p q, w.cell? ⟨g, k - 1, none⟩ = some (.int .i64 ((p : Nat) : Int)) ∧ w.cell? ⟨g, k, none⟩ = some (.int .i64 ((q : Nat) : Int)) ∧ Step dl S p q := by
  refine ⟨r[k - 1], r[k], h (k - 1) (by omega), h k hk, hc.2 (k - 1) _ _ (List.getElem?_eq_getElem (by omega)) ?_⟩
  rw [show k - 1 + 1 = k by omega]
  exact List.getElem?_eq_getElem hk

theorem Tp.lastCell {w : World} {g : Nat} {r : List Nat} {l : Nat} (h : ∀ i (_ : i < r.length), w.cell? ⟨g, i, none⟩ = some (.int .i64 (r[i] : Int))) (hl : r[r.length - 1]? = some l) (hr : 0 < r.length) : w.cell? ⟨g, r.length - 1, none⟩ = some (.int .i64 (l : Int)) := by
  rw [h (r.length - 1) (by omega)]
  rw [List.getElem?_eq_getElem (by omega)] at hl
  rw [Option.some.inj hl]

theorem Tp.val {k : IntKind} {a b : Int} (h : a = b) : Value.int k a = .int k b := by rw [h]

set_option maxRecDepth 100000 in
set_option maxHeartbeats 4000000 in
theorem Tp.top (a : Option Addr) (c : Nat) (dl : List UInt8) (pieces least : Int) (w : World) (HI : Hid (InV w a c dl)) (hp1 : -9223372036854775808 ≤ pieces) (hp2 : pieces ≤ 9223372036854775807) (hl1 : -9223372036854775808 ≤ least) (hl2 : least ≤ 9223372036854775807) :
    Calls Try.prog 3 #[.slice a dl.length c, .int .i64 pieces, .int .i64 least] w fun e w' => e = .returned (.bool true) ∧ Below w.heap.size w w' := by
  have hneq := Tp.neq
  by_cases g1 : (1048576 : Int) < dl.length
  · go_enter Try.func3, Try.ntmps3
    go_wp2
    go_ret
    exact ⟨rfl, Below.refl _ _⟩
  have hn : dl.length ≤ 1048576 := by omega
  have hmk := Tp.make5 dl.length hn
  go_enter Try.func3, Try.ntmps3
  go_upto_if 28 with go_in
  go_cut [0] (fun t wc => ∃ a' c', t = .slice a' dl.length c' ∧ Hid (DataV wc a' c' dl) ∧ Hid (Below w.heap.size w wc))
  case first =>
    cases a with
    | none =>
      have hd : DataV w none c dl := by
        rcases HI.out with h | ⟨x, h, _⟩
        · exact .inl h
        · cases h
      have HD : Hid (DataV w none c dl) := hd
      clear hd
      go_wp2
      go_meet
      case rel => exact ⟨_, _, rfl, HD, Below.refl _ _⟩
    | some x =>
      have HX : Hid (∀ i (h : i < dl.length), w.cell? (x.add i) = some (.int .u8 dl[i].toNat)) := by
        rcases HI.out with ⟨h, _⟩ | ⟨y, h, h2⟩
        · cases h
        · injection h with h; subst h; exact h2
      obtain ⟨cs, hcs⟩ : ∃ cs, cs = dl.map ucell := ⟨_, rfl⟩
      have HC : Hid (cs = dl.map ucell) := hcs
      have hcl : cs.length = dl.length := by rw [hcs]; simp
      clear hcs
      go_wp2_with (refine wpList_copy_splice rfl (.tmp 32) (.tmp 33) 22 22 rfl 5 Try.underlying22 Tp.size5 (some ⟨w.heap.size, 0, none⟩) (some x) dl.length dl.length dl.length c rfl rfl w.heap.size 0 (madeCells #[.int .u8 0] dl.length).toList 5 (Tp.made w _) cs (by rw [hcl]; simp) (fun _ => ⟨rfl, x, rfl, Tp.src w HX.out HC.out⟩) (by rw [hcl]; simp [size_madeCells]) (Tp.oneCell HC.out) w.heap.size w ((Below.refl _ _).alloc (Nat.le_refl _) _) (Nat.le_refl _) ?_)
      intro w2 HG2 hB2
      have HB2 : Hid (Below w.heap.size w w2) := hB2
      clear hB2
      go_wp2
      go_meet
      case rel => exact ⟨_, _, rfl, Tp.copied HG2.out HC.out, HB2⟩
  case rest =>
    obtain ⟨a', c', rfl, HD, HB⟩ := hcut
    clear HI hmk hneq
    have hgi := Lib.indexByte_ge dl 34
    by_cases hno : Lib.indexByte dl 34 = -1
    · have HNo : Hid (Lib.indexByte dl 34 = -1) := hno
      obtain ⟨S, hS⟩ : ∃ S : Nat, max least ((dl.length : Int) / max pieces 1) = S := ⟨(max least ((dl.length : Int) / max pieces 1)).toNat, by
        have := Int.ediv_nonneg (a := (dl.length : Int)) (b := max pieces 1) (by omega) (by omega)
        omega⟩
      have hSb : (S : Int) ≤ 9223372036854775807 := by
        have := Int.ediv_le_self (a := (dl.length : Int)) (max pieces 1) (by omega)
        omega
      have HS : Hid (max least ((dl.length : Int) / max pieces 1) = S) := hS
      clear hno hgi hS
      go_wp2_with fail
      refine (Tp.wrap (Q := fun v w' => ∃ r l, Rs wc w' v r ∧ Chain dl S r ∧ r[r.length - 1]? = some l ∧ (r.length : Int) ≤ max pieces 1 ∧ r.length ≤ 1048577 ∧ l ≤ 1048576 ∧ ((r.length : Int) < pieces → Done dl S l)) ((Ps.plain wc a' c' dl pieces least S HNo HD hn HS hSb).mono fun e w' ⟨v, r, l, he, h⟩ => ⟨v, he, r, l, h⟩)).mono ?_
      rintro e w2 ⟨v, rfl, r, l, hR, hC, hL, hr1, hr2, hlb, hDn⟩
      have hr0 : 0 < r.length := by
        rcases Nat.eq_zero_or_pos r.length with h0 | h0
        · rw [List.getElem?_eq_none (by omega)] at hL; cases hL
        · exact h0
      have HR : Hid (Rs wc w2 v r) := hR
      have HC : Hid (Chain dl S r) := hC
      have HL : Hid (r[r.length - 1]? = some l) := hL
      have HDn : Hid ((r.length : Int) < pieces → Done dl S l) := hDn
      obtain ⟨g, cap, rfl, _, _, hcell⟩ := hR.seen hr0
      have HCell : Hid (∀ i (_ : i < r.length), w2.cell? ⟨g, i, none⟩ = some (.int .i64 (r[i] : Int))) := hcell
      have hc0 : w2.cell? ⟨g, 0, none⟩ = some (.int .i64 0) := Tp.first hcell hC hr0
      clear hcell hR hC hL hDn
      have HD2 : Hid (DataV w2 a' c' dl) := HD.out.below HR.out.n
      have HB2 : Hid (Below w.heap.size w w2) := HB.out.trans (HR.out.n.mono HB.out.size)
      clear HD HB HR
      go_wp2
      go_loop [10] (fun i => ∃ k : Nat, k ≤ dl.length ∧ i = .int .i64 k) (fun i => dl.length - (intOf i).toNat)
      case atStart => exact ⟨0, Nat.zero_le _, rfl⟩
      case round =>
        obtain ⟨k, hk, rfl⟩ := hrel
        by_cases hkl : k < dl.length
        · obtain ⟨b, off, rfl, hcell⟩ := HD2.out.at hkl
          have hb := Tp.ne (Lib.indexByte_none HNo.out k) hkl 34 rfl
          go_wp2
          go_round
          case rel => exact ⟨k + 1, by omega, by go_num⟩
          case measure => simp [intOf]; omega
        · clear hc0
          by_cases hp : pieces < 1
          · have hr : r.length = 1 := by omega
            go_wp2
            all_goals
              go_loop [13] (fun i => i = .int .i64 1) (fun _ => 0)
              case atStart => rfl
              case round =>
                subst hrel
                go_wp2
                go_ret
                exact ⟨rfl, HB2.out⟩
          · have hq0 : 0 ≤ (dl.length : Int) / pieces := Int.ediv_nonneg (by omega) (by omega)
            have hq1 : (dl.length : Int) / pieces ≤ 1048576 := by
              have := Int.ediv_le_self (a := (dl.length : Int)) pieces (by omega)
              omega
            have hmx : max pieces 1 = pieces := by omega
            have HS2 : Hid (max least ((dl.length : Int) / pieces) = S) := by have := HS.out; rwa [hmx] at this
            clear hmx
            clear HS
            go_upto_if 72 with fail
            go_cut [12] (fun t wc => t = .int .i64 (S : Int) ∧ wc = w2)
            case first =>
              by_cases hle : (dl.length : Int) / pieces < least
              · go_wp2
                go_meet
                case rel => exact ⟨Tp.val (by have := HS2.out; omega), rfl⟩
              · go_wp2
                go_meet
                case rel => exact ⟨Tp.val (by have := HS2.out; omega), rfl⟩
            case rest =>
              obtain ⟨rfl, rfl⟩ := hcut
              clear hq0 hq1 HS2
              go_wp2
              go_loop [13] (fun i => ∃ k : Nat, 1 ≤ k ∧ k ≤ r.length ∧ i = .int .i64 k) (fun i => r.length - (intOf i).toNat)
              case atStart => exact ⟨1, by omega, by omega, rfl⟩
              case round =>
                obtain ⟨k, hk1, hk2, rfl⟩ := hrel
                by_cases hkr : k < r.length
                · obtain ⟨p, q, hcp, hcq, hst⟩ := Tp.pair HCell.out HC.out hk1 hkr
                  obtain ⟨hpq, hqn, h10, hbef⟩ := hst
                  obtain ⟨b, off, rfl, hcell⟩ := HD2.out.at (k := q - 1) (by omega)
                  have hb10 := Tp.eq' h10 (by omega) 10 rfl
                  have HBef : Hid (∀ t, p + S ≤ t → t < q - 1 → dl[t]? ≠ some 10) := hbef
                  clear h10 hbef
                  go_wp2
                  clear hcp hcq hcell hb10
                  go_loop [16] (fun t => ∃ T : Nat, T + 1 ≤ q ∧ t = .int .i64 ((T : Int) - 1)) (fun t => (intOf t + 1).toNat)
                  case atStart => exact ⟨q - 1, by omega, Tp.val (by omega)⟩
                  case round =>
                    obtain ⟨T, hT, rfl⟩ := hrel
                    by_cases hA : (p : Int) ≤ (T : Int) - 1
                    · by_cases hB : (S : Int) ≤ (T : Int) - 1 - p
                      · have htl : T - 1 < dl.length := by omega
                        obtain ⟨b', off', hb', hcell⟩ := HD2.out.at htl
                        obtain ⟨rfl, rfl⟩ : b = b' ∧ off = off' := by injection hb' with hb'; injection hb' with h1 h2; exact ⟨h1, h2⟩
                        have hb := Tp.ne (HBef.out (T - 1) (by omega) (by omega)) htl 10 rfl
                        clear hb'
                        go_wp2
                        go_round
                        case rel => exact ⟨T - 1, by omega, Tp.val (by omega)⟩
                        case measure => simp [intOf]; omega
                      · go_wp2
                        go_round
                        case rel => exact ⟨k + 1, by omega, by omega, by go_num⟩
                        case measure => simp [intOf]; omega
                    · go_wp2
                      go_round
                      case rel => exact ⟨k + 1, by omega, by omega, by go_num⟩
                      case measure => simp [intOf]; omega
                · by_cases hlp : (r.length : Int) < pieces
                  · have hcl := Tp.lastCell HCell.out HL.out hr0
                    have HDone : Hid (Done dl S l) := HDn.out hlp
                    go_wp2
                    go_loop [18] (fun i => ∃ J : Nat, l ≤ J ∧ J ≤ 1048577 ∧ i = .int .i64 J) (fun i => 1048577 - (intOf i).toNat)
                    case atStart => exact ⟨l, by omega, by omega, rfl⟩
                    case round =>
                      obtain ⟨J, hJ1, hJ2, rfl⟩ := hrel
                      by_cases hJn : (J : Int) + 1 < dl.length
                      · obtain ⟨b, off, rfl, hcell⟩ := HD2.out.at (k := J) (by omega)
                        by_cases hJS : (S : Int) ≤ J - l
                        · have hb := Tp.ne (HDone.out J (by omega) (by omega)) (by omega) 10 rfl
                          go_wp2
                          go_round
                          case rel => exact ⟨J + 1, by omega, by omega, by go_num⟩
                          case measure => simp [intOf]; omega
                        · go_wp2
                          go_round
                          case rel => exact ⟨J + 1, by omega, by omega, by go_num⟩
                          case measure => simp [intOf]; omega
                      · go_wp2
                        go_ret
                        exact ⟨rfl, HB2.out⟩
                  · go_wp2
                    go_ret
                    exact ⟨rfl, HB2.out⟩
    · obtain ⟨j, hj⟩ : ∃ j : Nat, Lib.indexByte dl 34 = j := ⟨(Lib.indexByte dl 34).toNat, by omega⟩
      obtain ⟨hj1, hj2⟩ := Lib.indexByte_some hj
      have hjl : j < dl.length := by
        rcases Nat.lt_or_ge j dl.length with h1 | h1
        · exact h1
        · rw [List.getElem?_eq_none h1] at hj1; cases hj1
      have HJ : Hid (Lib.indexByte dl 34 = (j : Int)) := hj
      have HJ1 : Hid (dl[j]? = some 34) := hj1
      have HJ2 : Hid (∀ k, k < j → dl[k]? ≠ some 34) := hj2
      clear hno hgi hj hj1 hj2
      go_wp2_with fail
      refine (Tp.wrap (Q := fun v w' => Rs wc w' v [0]) (Ps.quoted wc a' c' dl pieces least j HJ HD)).mono ?_
      rintro e w2 ⟨v, rfl, hR⟩
      have HR : Hid (Rs wc w2 v [0]) := hR
      obtain ⟨g, cap, rfl, _, _, hcell⟩ := hR.seen (by simp)
      have hc0 : w2.cell? ⟨g, 0, none⟩ = some (.int .i64 0) := hcell 0 (by simp)
      clear hcell hR
      have HD2 : Hid (DataV w2 a' c' dl) := HD.out.below HR.out.n
      have HB2 : Hid (Below w.heap.size w w2) := HB.out.trans (HR.out.n.mono HB.out.size)
      clear HD HB HR
      go_wp2
      go_loop [10] (fun i => ∃ k : Nat, k ≤ j ∧ i = .int .i64 k) (fun i => j + 1 - (intOf i).toNat)
      case atStart => exact ⟨0, Nat.zero_le _, rfl⟩
      case round =>
        obtain ⟨k, hk, rfl⟩ := hrel
        have hkl : k < dl.length := by omega
        obtain ⟨b, off, rfl, hcell⟩ := HD2.out.at hkl
        by_cases hlt : k < j
        · have hb := Tp.ne (HJ2.out k hlt) hkl 34 rfl
          go_wp2
          go_round
          case rel => exact ⟨k + 1, by omega, by go_num⟩
          case measure => simp [intOf]; omega
        · obtain rfl : k = j := by omega
          have hb := Tp.eq HJ1.out hkl 34 rfl
          go_wp2
          go_ret
          exact ⟨rfl, HB2.out⟩

end Go.Proofs.Qxb6601281a
