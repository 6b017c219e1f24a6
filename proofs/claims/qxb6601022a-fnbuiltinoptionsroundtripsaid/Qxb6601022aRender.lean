import Derived.Test.Qxb6601022aRow
import Derived.Deep.DeepCutAuto
namespace Go.Proofs.Qxb6601022a
open Go.RowKit Go.Proofs.Qxb6601022a.Pl

/-- what has been written and what is still to be written make up the whole -/
def Rd.Inv (s : List UInt8) (all os : List Opt) (ws : List ByteArray) (wd : List UInt8) (op : Bool) : Prop :=
  ws.map B ++ (if op then (wd ++ (cont s os).1) :: (cont s os).2 else closed s os) = closed s all

/-- the block that holds the option at hand -/
def Rd.Blk (w : World) (g : Nat) (o : Opt) : Prop := w.heap[g]? = some (Obj.cells #[.int .u8 o.l.toNat, .string o.v, .bool o.nw, .bool o.att] 37 (0, 0))

theorem Rd.cells {w : World} {g : Nat} {o : Opt} (h : Rd.Blk w g o) : w.cell? ⟨g, 0, Option.none⟩ = some (.int .u8 o.l.toNat) ∧ w.cell? ⟨g, 1, Option.none⟩ = some (.string o.v) ∧
    w.cell? ⟨g, 2, Option.none⟩ = some (.bool o.nw) ∧ w.cell? ⟨g, 3, Option.none⟩ = some (.bool o.att) ∧ g < w.heap.size := by
  refine ⟨?_, ?_, ?_, ?_, (Array.getElem?_eq_some_iff.1 h).1⟩ <;> (rw [cell_of_row _ _ _ _ _ _ h]; rfl)

theorem Rd.blk_alloc (wr : World) (o : Opt) : Rd.Blk (wr.alloc (Obj.cells #[.int .u8 o.l.toNat, .string o.v, .bool o.nw, .bool o.att] 37)) wr.heap.size o := heap_alloc_new _ _

theorem Rd.blk_drawn {w w1 : World} {g : Nat} {o : Opt} (h : Rd.Blk w g o) (hq : ∃ q, w1 = w.drewN q) : Rd.Blk w1 g o := by
  obtain ⟨q, rfl⟩ := hq; exact h

theorem Rd.sizes {s : List UInt8} {os : List Opt} {k : Nat} {ws : List ByteArray} {wd : List UInt8} {b : Bool} (h : Rd.Inv s os (os.drop k) ws wd b) (ho : os.length ≤ 1048576) (hv : valBytes os ≤ 1048576) :
    ws.length ≤ 4194304 ∧ (b = true → wd.length ≤ 4194304) := by
  have h1 := closed_size s os
  unfold Rd.Inv at h
  rw [← h] at h1
  rw [bytesOf_append, List.length_append, List.length_map] at h1
  refine ⟨by omega, fun hb => ?_⟩
  subst hb
  rw [if_pos rfl, bytesOf_cons, List.length_append] at h1
  omega

theorem closed_cons (s : List UInt8) (o : Opt) (os : List Opt) : closed s (o :: os) = (45 :: (letter s os o).1) :: (letter s os o).2 := rfl

/-- the option at k is about to be written into the word wd -/
def Rd.At (s : List UInt8) (all : List Opt) (k : Nat) (ws : List ByteArray) (wd : List UInt8) : Prop :=
  ∃ h : k < all.length, ws.map B ++ (wd ++ (letter s (all.drop (k + 1)) all[k]).1) :: (letter s (all.drop (k + 1)) all[k]).2 = closed s all

theorem Rd.at_new {s : List UInt8} {os : List Opt} {k : Nat} {ws : List ByteArray} {wd wd4 : List UInt8} (h : Hid (Rd.Inv s os (os.drop k) ws wd false)) (hk : k < os.length) (h4 : Hid (wd4 = [45])) : Hid (Rd.At s os k ws wd4) := by
  refine ⟨hk, ?_⟩
  have h1 := h.out
  unfold Rd.Inv at h1
  rw [List.drop_eq_getElem_cons hk] at h1
  rw [if_neg (by simp), closed_cons] at h1
  rw [h4.out]
  exact h1

theorem Rd.at_on {s : List UInt8} {os : List Opt} {k : Nat} {ws : List ByteArray} {wd : List UInt8} (h : Hid (Rd.Inv s os (os.drop k) ws wd true)) (hk : k < os.length) (hn : os[k].nw = false) : Hid (Rd.At s os k ws wd) := by
  refine ⟨hk, ?_⟩
  have h1 := h.out
  unfold Rd.Inv at h1
  rw [List.drop_eq_getElem_cons hk] at h1
  simpa [cont, hn] using h1

theorem Rd.at_turn {s : List UInt8} {os : List Opt} {k : Nat} {ws ws2 : List ByteArray} {wd wd4 : List UInt8} (h : Hid (Rd.Inv s os (os.drop k) ws wd true)) (hk : k < os.length) (hn : os[k].nw = true) (h2 : Hid (ws2 = ws ++ [Str wd])) (h4 : Hid (wd4 = [45])) :
    Hid (Rd.At s os k ws2 wd4) := by
  refine ⟨hk, ?_⟩
  have h1 := h.out
  unfold Rd.Inv at h1
  rw [List.drop_eq_getElem_cons hk] at h1
  simp only [cont, hn, if_true] at h1
  rw [closed_cons] at h1
  rw [h2.out, h4.out, List.map_append, List.map_cons, List.map_nil, Str_B]
  simpa using h1

theorem Rd.step_bare {s : List UInt8} {os : List Opt} {k : Nat} {ws : List ByteArray} {wd wd5 : List UInt8} (h : Hid (Rd.At s os k ws wd)) (hk : k < os.length) (ht : Hid (takes s os[k].l = false)) (h5 : Hid (wd5 = wd ++ [os[k].l])) : Hid (Rd.Inv s os (os.drop (k + 1)) ws wd5 true) := by
  obtain ⟨_, h1⟩ := h.out
  show Rd.Inv _ _ _ _ _ _
  unfold Rd.Inv
  rw [letter_bare ht.out] at h1
  rw [h5.out]
  simpa using h1

theorem Rd.step_in {s : List UInt8} {os : List Opt} {k : Nat} {ws : List ByteArray} {wd wd5 wd6 : List UInt8} (h : Hid (Rd.At s os k ws wd)) (hk : k < os.length) (ht : Hid (takes s os[k].l = true)) (hi : Hid (inside os[k] = true)) (h5 : Hid (wd5 = wd ++ [os[k].l])) (h6 : Hid (wd6 = wd5 ++ B os[k].v)) :
    Hid (Rd.Inv s os (os.drop (k + 1)) (ws ++ [Str wd6]) wd6 false) := by
  obtain ⟨_, h1⟩ := h.out
  show Rd.Inv _ _ _ _ _ _
  unfold Rd.Inv
  rw [letter_takes_in ht.out hi.out] at h1
  rw [List.map_append, List.map_cons, List.map_nil, Str_B, h6.out, h5.out]
  simpa using h1

theorem Rd.step_out {s : List UInt8} {os : List Opt} {k : Nat} {ws : List ByteArray} {wd wd5 : List UInt8} (h : Hid (Rd.At s os k ws wd)) (hk : k < os.length) (ht : Hid (takes s os[k].l = true)) (hi : Hid (inside os[k] = false)) (h5 : Hid (wd5 = wd ++ [os[k].l])) :
    Hid (Rd.Inv s os (os.drop (k + 1)) (ws ++ [Str wd5, os[k].v]) wd5 false) := by
  obtain ⟨_, h1⟩ := h.out
  show Rd.Inv _ _ _ _ _ _
  unfold Rd.Inv
  rw [letter_takes_out ht.out hi.out] at h1
  rw [List.map_append, List.map_cons, List.map_cons, List.map_nil, Str_B, h5.out]
  simpa using h1

theorem Rd.end_closed {s : List UInt8} {os : List Opt} {k : Nat} {ws : List ByteArray} {wd : List UInt8} (h : Hid (Rd.Inv s os (os.drop k) ws wd false)) (hk : ¬ k < os.length) : ws.map B = closed s os := by
  have h1 := h.out
  unfold Rd.Inv at h1
  rw [List.drop_eq_nil_of_le (by omega)] at h1
  simpa [closed] using h1

theorem Rd.end_open {s : List UInt8} {os : List Opt} {k : Nat} {ws : List ByteArray} {wd : List UInt8} (h : Hid (Rd.Inv s os (os.drop k) ws wd true)) (hk : ¬ k < os.length) : (ws ++ [Str wd]).map B = closed s os := by
  have h1 := h.out
  unfold Rd.Inv at h1
  rw [List.drop_eq_nil_of_le (by omega)] at h1
  rw [List.map_append, List.map_cons, List.map_nil, Str_B]
  simpa [cont] using h1

theorem Rd.in_true {o : Opt} (ha : o.att = true) (hv : o.v.toList.isEmpty = false) : Hid (inside o = true) := by
  show _ = _
  unfold inside
  rw [ha]
  rw [ByteArray.toList_eq] at hv
  simp [B, hv]

theorem Rd.in_false {o : Opt} (hv : o.v.toList.isEmpty = true) : Hid (inside o = false) := by
  show _ = _
  unfold inside
  rw [ByteArray.toList_eq] at hv
  simp [B, hv]

theorem Rd.val_le {os : List Opt} {k : Nat} (hk : k < os.length) (hv : valBytes os ≤ 1048576) : os[k].v.size ≤ 1048576 := by
  have h : valBytes (os.take (k + 1)) ≤ valBytes os := by
    conv => rhs; rw [← List.take_append_drop (k + 1) os]
    unfold valBytes
    rw [List.map_append, List.sum_append]
    omega
  rw [Mm.val_step hk] at h
  omega

set_option maxHeartbeats 4000000 in
theorem Rd.render (s : ByteArray) (a : Option Addr) (c : Nat) (os : List Opt) (w : World) (hs : s.size ≤ 1048576) (ho : os.length ≤ 1048576) (hv : valBytes os ≤ 1048576) (HO : Hid (OptsV w a os)) :
    Calls Try.prog 15 #[.string s, .slice a os.length c] w fun e w' => ∃ v ws, e = .returned v ∧ ws.map B = closed (B s) os ∧ OwnsW w.heap.size w' v ws ∧ Below w.heap.size w w' := by
  go_enter Try.func15, Try.ntmps15
  go_wp2
  go_loopw [5, 6, 7, 8] (fun va vw op i wr => ∃ (k : Nat) (ws : List ByteArray) (wd : List UInt8) (b : Bool), k ≤ os.length ∧ i = .int .i64 k ∧ op = .bool b ∧ Hid (Rs w wr va vw ws wd) ∧ Hid (Rd.Inv (B s) os (os.drop k) ws wd b)) (fun _ _ _ i _ => os.length - (intOf i).toNat)
  case atStart => exact ⟨0, [], [], false, Nat.zero_le _, rfl, rfl, ⟨World.ownsRow_nil _ _ _ _, World.ownsRow_nil _ _ _ _, Below.refl _ _⟩, by simp [Rd.Inv, Hid]⟩
  case round =>
    obtain ⟨k, ws, wd, b, hk, rfl, rfl, HS, HI⟩ := hrel
    by_cases hlt : k < os.length
    · have HN : Hid (Below w.heap.size w wr) := HS.out.n
      obtain ⟨b0, off, rfl, h0, h1, h2, h3⟩ := HO.out.at (fun _ => rfl) hlt
      have hb0 : b0 < w.heap.size := World.block_lt_of_cell? w _ h0
      have c0 := (HN.out.cell (p := ⟨b0, off + k * 4, Option.none⟩) hb0).trans h0
      have c1 := (HN.out.cell (p := ⟨b0, off + k * 4 + 1, Option.none⟩) hb0).trans h1
      have c2 := (HN.out.cell (p := ⟨b0, off + k * 4 + 2, Option.none⟩) hb0).trans h2
      have c3 := (HN.out.cell (p := ⟨b0, off + k * 4 + 3, Option.none⟩) hb0).trans h3
      clear h0 h1 h2 h3
      go_wp2_with fail
      refine (Sl.spec s os[k].l _ hs).mono ?_
      rintro e w1 ⟨rfl, hq⟩
      have HS1 : Hid (Rs w w1 u5 u6 ws wd) := (HS.out.alloc _).drawn hq
      have HB1 : Hid (Rd.Blk w1 wr.heap.size os[k]) := Rd.blk_drawn (Rd.blk_alloc wr os[k]) hq
      obtain ⟨e0, e1, e2, e3, hz⟩ := Rd.cells HB1.out
      obtain ⟨hn1, hn2⟩ := Rd.sizes HI.out ho hv
      have hvk := Rd.val_le hlt hv
      clear hq c0 c1 c2 c3 HS HN
      cases b
      · obtain ⟨v3, hsl, HS3'⟩ := Rw.empty HS1.out
        have HS3 : Hid (Rs w w1 u5 v3 ws []) := HS3'
        clear HS3' HS1
        go_wp2_with (at_builtin; go_must (refine Rw.addDash rfl (.tmp 42) (.tmp 43) rfl w w1 u5 v3 ws [] rfl rfl HS3 (by simp) ?_))
        intro v4 w4 HS4' HK4
        have HS4 : Hid (Rs w w4 u5 v4 ws [45]) := HS4'
        have HB4 : Hid (Rd.Blk w4 wr.heap.size os[k]) := HK4 _ _ HB1.out
        clear HS4' HS3 HB1 e0 e1 e2 e3 hz HK4 hsl
        obtain ⟨e0, e1, e2, e3, hz⟩ := Rd.cells HB4.out
        obtain ⟨wd4, hd4'⟩ : ∃ x : List UInt8, x = [45] := ⟨_, rfl⟩
        have hl4 : wd4.length ≤ 1 := by rw [hd4']; simp
        rw [← hd4'] at HS4
        have HD4 : Hid (wd4 = [45]) := hd4'
        clear hd4'
        have HI : Hid (Rd.At (B s) os k ws wd4) := Rd.at_new HI hlt HD4
        cases ht : takes (B s) os[k].l
        · have HT : Hid (takes (B s) os[k].l = false) := ht
          go_wp2_with (at_builtin; go_must (refine Rw.addByte rfl (.tmp 45) (.tmp 48) rfl w w4 u5 v4 ws wd4 os[k].l rfl rfl HS4 (by omega) ?_))
          intro v5 w5 HS5 HK5
          have HB5 : Hid (Rd.Blk w5 wr.heap.size os[k]) := HK5 _ _ HB4.out
          clear HS4 HB4 e0 e1 e2 e3 hz HK5
          obtain ⟨e0, e1, e2, e3, hz⟩ := Rd.cells HB5.out
          obtain ⟨wd5, hd5'⟩ : ∃ x, x = wd4 ++ [os[k].l] := ⟨_, rfl⟩
          have hl5 : wd5.length ≤ 6000000 := by rw [hd5']; simp; omega
          rw [← hd5'] at HS5
          have HD5 : Hid (wd5 = wd4 ++ [os[k].l]) := hd5'
          clear hd5'
          go_wp2
          go_roundw
          case rel => exact ⟨k + 1, ws, wd5, true, by omega, by go_num, rfl, HS5, Rd.step_bare HI hlt HT HD5⟩
          case measure => simp [intOf]; omega
        · cases ha : os[k].att
          · have HT : Hid (takes (B s) os[k].l = true) := ht
            have HA : Hid (inside os[k] = false) := by show _ = _; simp [inside, ha]
            go_wp2_with (at_builtin; go_must (refine Rw.addByte rfl (.tmp 45) (.tmp 48) rfl w w4 u5 v4 ws wd4 os[k].l rfl rfl HS4 (by omega) ?_))
            intro v5 w5 HS5 HK5
            have HB5 : Hid (Rd.Blk w5 wr.heap.size os[k]) := HK5 _ _ HB4.out
            clear HS4 HB4 e0 e1 e2 e3 hz HK5
            obtain ⟨e0, e1, e2, e3, hz⟩ := Rd.cells HB5.out
            obtain ⟨wd5, hd5'⟩ : ∃ x, x = wd4 ++ [os[k].l] := ⟨_, rfl⟩
            have hl5 : wd5.length ≤ 6000000 := by rw [hd5']; simp; omega
            rw [← hd5'] at HS5
            have HD5 : Hid (wd5 = wd4 ++ [os[k].l]) := hd5'
            clear hd5'
            have hcv := Rw.convert HS5.out.b
            go_wp2_with (at_builtin; go_must (refine Rw.addWords rfl (.tmp 67) (.tmp 72) rfl w w5 u5 v5 ws wd5 (Str wd5) os[k].v rfl rfl HS5 (by omega) ?_))
            intro v7 w7 HS7 HK7
            go_wp2
            go_roundw
            case rel => exact ⟨k + 1, ws ++ [Str wd5, os[k].v], wd5, false, by omega, by go_num, rfl, HS7, Rd.step_out HI hlt HT HA HD5⟩
            case measure => simp [intOf]; omega
          · cases hve : os[k].v.toList.isEmpty
            · have HT : Hid (takes (B s) os[k].l = true) := ht
              have HA : Hid (inside os[k] = true) := Rd.in_true ha hve
              go_wp2_with (at_builtin; go_must (refine Rw.addByte rfl (.tmp 45) (.tmp 48) rfl w w4 u5 v4 ws wd4 os[k].l rfl rfl HS4 (by omega) ?_))
              intro v5 w5 HS5 HK5
              have HB5 : Hid (Rd.Blk w5 wr.heap.size os[k]) := HK5 _ _ HB4.out
              clear HS4 HB4 e0 e1 e2 e3 hz HK5
              obtain ⟨e0, e1, e2, e3, hz⟩ := Rd.cells HB5.out
              obtain ⟨wd5, hd5'⟩ : ∃ x, x = wd4 ++ [os[k].l] := ⟨_, rfl⟩
              have hl5 : wd5.length ≤ 6000000 := by rw [hd5']; simp; omega
              rw [← hd5'] at HS5
              have HD5 : Hid (wd5 = wd4 ++ [os[k].l]) := hd5'
              clear hd5'
              go_wp2_with (at_builtin; go_must (refine Rw.addText rfl (.tmp 58) (.tmp 60) rfl w w5 u5 v5 ws wd5 os[k].v rfl rfl HS5 (by omega) (by omega) ?_))
              intro v6 w6 HS6 HK6
              have HB6 : Hid (Rd.Blk w6 wr.heap.size os[k]) := HK6 _ _ HB5.out
              clear HS5 HB5 e0 e1 e2 e3 hz HK6
              obtain ⟨e0, e1, e2, e3, hz⟩ := Rd.cells HB6.out
              obtain ⟨wd6, hd6'⟩ : ∃ x, x = wd5 ++ B os[k].v := ⟨_, rfl⟩
              rw [← hd6'] at HS6
              have HD6 : Hid (wd6 = wd5 ++ B os[k].v) := hd6'
              clear hd6'
              have hcv := Rw.convert HS6.out.b
              go_wp2_with (at_builtin; go_must (refine Rw.addWord rfl (.tmp 62) (.tmp 65) rfl w w6 u5 v6 ws wd6 (Str wd6) rfl rfl HS6 (by omega) ?_))
              intro v7 w7 HS7 HK7
              go_wp2
              go_roundw
              case rel => exact ⟨k + 1, ws ++ [Str wd6], wd6, false, by omega, by go_num, rfl, HS7, Rd.step_in HI hlt HT HA HD5 HD6⟩
              case measure => simp [intOf]; omega
            · have HT : Hid (takes (B s) os[k].l = true) := ht
              have HA : Hid (inside os[k] = false) := Rd.in_false hve
              go_wp2_with (at_builtin; go_must (refine Rw.addByte rfl (.tmp 45) (.tmp 48) rfl w w4 u5 v4 ws wd4 os[k].l rfl rfl HS4 (by omega) ?_))
              intro v5 w5 HS5 HK5
              have HB5 : Hid (Rd.Blk w5 wr.heap.size os[k]) := HK5 _ _ HB4.out
              clear HS4 HB4 e0 e1 e2 e3 hz HK5
              obtain ⟨e0, e1, e2, e3, hz⟩ := Rd.cells HB5.out
              obtain ⟨wd5, hd5'⟩ : ∃ x, x = wd4 ++ [os[k].l] := ⟨_, rfl⟩
              have hl5 : wd5.length ≤ 6000000 := by rw [hd5']; simp; omega
              rw [← hd5'] at HS5
              have HD5 : Hid (wd5 = wd4 ++ [os[k].l]) := hd5'
              clear hd5'
              have hcv := Rw.convert HS5.out.b
              go_wp2_with (at_builtin; go_must (refine Rw.addWords rfl (.tmp 67) (.tmp 72) rfl w w5 u5 v5 ws wd5 (Str wd5) os[k].v rfl rfl HS5 (by omega) ?_))
              intro v7 w7 HS7 HK7
              go_wp2
              go_roundw
              case rel => exact ⟨k + 1, ws ++ [Str wd5, os[k].v], wd5, false, by omega, by go_num, rfl, HS7, Rd.step_out HI hlt HT HA HD5⟩
              case measure => simp [intOf]; omega
      · have hn3 : wd.length ≤ 4194304 := hn2 rfl
        clear hn2
        cases hnw : os[k].nw
        · have HI : Hid (Rd.At (B s) os k ws wd) := Rd.at_on HI hlt hnw
          cases ht : takes (B s) os[k].l
          · have HT : Hid (takes (B s) os[k].l = false) := ht
            go_wp2_with (at_builtin; go_must (refine Rw.addByte rfl (.tmp 45) (.tmp 48) rfl w w1 u5 u6 ws wd os[k].l rfl rfl HS1 (by omega) ?_))
            intro v5 w5 HS5 HK5
            have HB5 : Hid (Rd.Blk w5 wr.heap.size os[k]) := HK5 _ _ HB1.out
            clear HS1 HB1 e0 e1 e2 e3 hz HK5
            obtain ⟨e0, e1, e2, e3, hz⟩ := Rd.cells HB5.out
            obtain ⟨wd5, hd5'⟩ : ∃ x, x = wd ++ [os[k].l] := ⟨_, rfl⟩
            have hl5 : wd5.length ≤ 6000000 := by rw [hd5']; simp; omega
            rw [← hd5'] at HS5
            have HD5 : Hid (wd5 = wd ++ [os[k].l]) := hd5'
            clear hd5'
            go_wp2
            go_roundw
            case rel => exact ⟨k + 1, ws, wd5, true, by omega, by go_num, rfl, HS5, Rd.step_bare HI hlt HT HD5⟩
            case measure => simp [intOf]; omega
          · cases ha : os[k].att
            · have HT : Hid (takes (B s) os[k].l = true) := ht
              have HA : Hid (inside os[k] = false) := by show _ = _; simp [inside, ha]
              go_wp2_with (at_builtin; go_must (refine Rw.addByte rfl (.tmp 45) (.tmp 48) rfl w w1 u5 u6 ws wd os[k].l rfl rfl HS1 (by omega) ?_))
              intro v5 w5 HS5 HK5
              have HB5 : Hid (Rd.Blk w5 wr.heap.size os[k]) := HK5 _ _ HB1.out
              clear HS1 HB1 e0 e1 e2 e3 hz HK5
              obtain ⟨e0, e1, e2, e3, hz⟩ := Rd.cells HB5.out
              obtain ⟨wd5, hd5'⟩ : ∃ x, x = wd ++ [os[k].l] := ⟨_, rfl⟩
              have hl5 : wd5.length ≤ 6000000 := by rw [hd5']; simp; omega
              rw [← hd5'] at HS5
              have HD5 : Hid (wd5 = wd ++ [os[k].l]) := hd5'
              clear hd5'
              have hcv := Rw.convert HS5.out.b
              go_wp2_with (at_builtin; go_must (refine Rw.addWords rfl (.tmp 67) (.tmp 72) rfl w w5 u5 v5 ws wd5 (Str wd5) os[k].v rfl rfl HS5 (by omega) ?_))
              intro v7 w7 HS7 HK7
              go_wp2
              go_roundw
              case rel => exact ⟨k + 1, ws ++ [Str wd5, os[k].v], wd5, false, by omega, by go_num, rfl, HS7, Rd.step_out HI hlt HT HA HD5⟩
              case measure => simp [intOf]; omega
            · cases hve : os[k].v.toList.isEmpty
              · have HT : Hid (takes (B s) os[k].l = true) := ht
                have HA : Hid (inside os[k] = true) := Rd.in_true ha hve
                go_wp2_with (at_builtin; go_must (refine Rw.addByte rfl (.tmp 45) (.tmp 48) rfl w w1 u5 u6 ws wd os[k].l rfl rfl HS1 (by omega) ?_))
                intro v5 w5 HS5 HK5
                have HB5 : Hid (Rd.Blk w5 wr.heap.size os[k]) := HK5 _ _ HB1.out
                clear HS1 HB1 e0 e1 e2 e3 hz HK5
                obtain ⟨e0, e1, e2, e3, hz⟩ := Rd.cells HB5.out
                obtain ⟨wd5, hd5'⟩ : ∃ x, x = wd ++ [os[k].l] := ⟨_, rfl⟩
                have hl5 : wd5.length ≤ 6000000 := by rw [hd5']; simp; omega
                rw [← hd5'] at HS5
                have HD5 : Hid (wd5 = wd ++ [os[k].l]) := hd5'
                clear hd5'
                go_wp2_with (at_builtin; go_must (refine Rw.addText rfl (.tmp 58) (.tmp 60) rfl w w5 u5 v5 ws wd5 os[k].v rfl rfl HS5 (by omega) (by omega) ?_))
                intro v6 w6 HS6 HK6
                have HB6 : Hid (Rd.Blk w6 wr.heap.size os[k]) := HK6 _ _ HB5.out
                clear HS5 HB5 e0 e1 e2 e3 hz HK6
                obtain ⟨e0, e1, e2, e3, hz⟩ := Rd.cells HB6.out
                obtain ⟨wd6, hd6'⟩ : ∃ x, x = wd5 ++ B os[k].v := ⟨_, rfl⟩
                rw [← hd6'] at HS6
                have HD6 : Hid (wd6 = wd5 ++ B os[k].v) := hd6'
                clear hd6'
                have hcv := Rw.convert HS6.out.b
                go_wp2_with (at_builtin; go_must (refine Rw.addWord rfl (.tmp 62) (.tmp 65) rfl w w6 u5 v6 ws wd6 (Str wd6) rfl rfl HS6 (by omega) ?_))
                intro v7 w7 HS7 HK7
                go_wp2
                go_roundw
                case rel => exact ⟨k + 1, ws ++ [Str wd6], wd6, false, by omega, by go_num, rfl, HS7, Rd.step_in HI hlt HT HA HD5 HD6⟩
                case measure => simp [intOf]; omega
              · have HT : Hid (takes (B s) os[k].l = true) := ht
                have HA : Hid (inside os[k] = false) := Rd.in_false hve
                go_wp2_with (at_builtin; go_must (refine Rw.addByte rfl (.tmp 45) (.tmp 48) rfl w w1 u5 u6 ws wd os[k].l rfl rfl HS1 (by omega) ?_))
                intro v5 w5 HS5 HK5
                have HB5 : Hid (Rd.Blk w5 wr.heap.size os[k]) := HK5 _ _ HB1.out
                clear HS1 HB1 e0 e1 e2 e3 hz HK5
                obtain ⟨e0, e1, e2, e3, hz⟩ := Rd.cells HB5.out
                obtain ⟨wd5, hd5'⟩ : ∃ x, x = wd ++ [os[k].l] := ⟨_, rfl⟩
                have hl5 : wd5.length ≤ 6000000 := by rw [hd5']; simp; omega
                rw [← hd5'] at HS5
                have HD5 : Hid (wd5 = wd ++ [os[k].l]) := hd5'
                clear hd5'
                have hcv := Rw.convert HS5.out.b
                go_wp2_with (at_builtin; go_must (refine Rw.addWords rfl (.tmp 67) (.tmp 72) rfl w w5 u5 v5 ws wd5 (Str wd5) os[k].v rfl rfl HS5 (by omega) ?_))
                intro v7 w7 HS7 HK7
                go_wp2
                go_roundw
                case rel => exact ⟨k + 1, ws ++ [Str wd5, os[k].v], wd5, false, by omega, by go_num, rfl, HS7, Rd.step_out HI hlt HT HA HD5⟩
                case measure => simp [intOf]; omega
        · have hcv := Rw.convert HS1.out.b
          go_wp2_with (at_builtin; go_must (refine Rw.addWord rfl (.tmp 34) (.tmp 37) rfl w w1 u5 u6 ws wd (Str wd) rfl rfl HS1 (by omega) ?_))
          intro v2 w2 HS2 HK2
          have HB2 : Hid (Rd.Blk w2 wr.heap.size os[k]) := HK2 _ _ HB1.out
          clear HS1 HB1 hcv e0 e1 e2 e3 hz HK2
          obtain ⟨e0, e1, e2, e3, hz⟩ := Rd.cells HB2.out
          obtain ⟨ws2, hd2'⟩ : ∃ x, x = ws ++ [Str wd] := ⟨_, rfl⟩
          have hl2 : ws2.length ≤ 6000000 := by rw [hd2']; simp; omega
          rw [← hd2'] at HS2
          have HD2 : Hid (ws2 = ws ++ [Str wd]) := hd2'
          clear hd2'
          obtain ⟨v3, hsl, HS3'⟩ := Rw.empty HS2.out
          have HS3 : Hid (Rs w w2 v2 v3 ws2 []) := HS3'
          clear HS3' HS2
          go_wp2_with (at_builtin; go_must (refine Rw.addDash rfl (.tmp 42) (.tmp 43) rfl w w2 v2 v3 ws2 [] rfl rfl HS3 (by simp) ?_))
          intro v4 w4 HS4' HK4
          have HS4 : Hid (Rs w w4 v2 v4 ws2 [45]) := HS4'
          have HB4 : Hid (Rd.Blk w4 wr.heap.size os[k]) := HK4 _ _ HB2.out
          clear HS4' HS3 HB2 e0 e1 e2 e3 hz HK4 hsl
          obtain ⟨e0, e1, e2, e3, hz⟩ := Rd.cells HB4.out
          obtain ⟨wd4, hd4'⟩ : ∃ x : List UInt8, x = [45] := ⟨_, rfl⟩
          have hl4 : wd4.length ≤ 1 := by rw [hd4']; simp
          rw [← hd4'] at HS4
          have HD4 : Hid (wd4 = [45]) := hd4'
          clear hd4'
          have HI : Hid (Rd.At (B s) os k ws2 wd4) := Rd.at_turn HI hlt hnw HD2 HD4
          cases ht : takes (B s) os[k].l
          · have HT : Hid (takes (B s) os[k].l = false) := ht
            go_wp2_with (at_builtin; go_must (refine Rw.addByte rfl (.tmp 45) (.tmp 48) rfl w w4 v2 v4 ws2 wd4 os[k].l rfl rfl HS4 (by omega) ?_))
            intro v5 w5 HS5 HK5
            have HB5 : Hid (Rd.Blk w5 wr.heap.size os[k]) := HK5 _ _ HB4.out
            clear HS4 HB4 e0 e1 e2 e3 hz HK5
            obtain ⟨e0, e1, e2, e3, hz⟩ := Rd.cells HB5.out
            obtain ⟨wd5, hd5'⟩ : ∃ x, x = wd4 ++ [os[k].l] := ⟨_, rfl⟩
            have hl5 : wd5.length ≤ 6000000 := by rw [hd5']; simp; omega
            rw [← hd5'] at HS5
            have HD5 : Hid (wd5 = wd4 ++ [os[k].l]) := hd5'
            clear hd5'
            go_wp2
            go_roundw
            case rel => exact ⟨k + 1, ws2, wd5, true, by omega, by go_num, rfl, HS5, Rd.step_bare HI hlt HT HD5⟩
            case measure => simp [intOf]; omega
          · cases ha : os[k].att
            · have HT : Hid (takes (B s) os[k].l = true) := ht
              have HA : Hid (inside os[k] = false) := by show _ = _; simp [inside, ha]
              go_wp2_with (at_builtin; go_must (refine Rw.addByte rfl (.tmp 45) (.tmp 48) rfl w w4 v2 v4 ws2 wd4 os[k].l rfl rfl HS4 (by omega) ?_))
              intro v5 w5 HS5 HK5
              have HB5 : Hid (Rd.Blk w5 wr.heap.size os[k]) := HK5 _ _ HB4.out
              clear HS4 HB4 e0 e1 e2 e3 hz HK5
              obtain ⟨e0, e1, e2, e3, hz⟩ := Rd.cells HB5.out
              obtain ⟨wd5, hd5'⟩ : ∃ x, x = wd4 ++ [os[k].l] := ⟨_, rfl⟩
              have hl5 : wd5.length ≤ 6000000 := by rw [hd5']; simp; omega
              rw [← hd5'] at HS5
              have HD5 : Hid (wd5 = wd4 ++ [os[k].l]) := hd5'
              clear hd5'
              have hcv := Rw.convert HS5.out.b
              go_wp2_with (at_builtin; go_must (refine Rw.addWords rfl (.tmp 67) (.tmp 72) rfl w w5 v2 v5 ws2 wd5 (Str wd5) os[k].v rfl rfl HS5 (by omega) ?_))
              intro v7 w7 HS7 HK7
              go_wp2
              go_roundw
              case rel => exact ⟨k + 1, ws2 ++ [Str wd5, os[k].v], wd5, false, by omega, by go_num, rfl, HS7, Rd.step_out HI hlt HT HA HD5⟩
              case measure => simp [intOf]; omega
            · cases hve : os[k].v.toList.isEmpty
              · have HT : Hid (takes (B s) os[k].l = true) := ht
                have HA : Hid (inside os[k] = true) := Rd.in_true ha hve
                go_wp2_with (at_builtin; go_must (refine Rw.addByte rfl (.tmp 45) (.tmp 48) rfl w w4 v2 v4 ws2 wd4 os[k].l rfl rfl HS4 (by omega) ?_))
                intro v5 w5 HS5 HK5
                have HB5 : Hid (Rd.Blk w5 wr.heap.size os[k]) := HK5 _ _ HB4.out
                clear HS4 HB4 e0 e1 e2 e3 hz HK5
                obtain ⟨e0, e1, e2, e3, hz⟩ := Rd.cells HB5.out
                obtain ⟨wd5, hd5'⟩ : ∃ x, x = wd4 ++ [os[k].l] := ⟨_, rfl⟩
                have hl5 : wd5.length ≤ 6000000 := by rw [hd5']; simp; omega
                rw [← hd5'] at HS5
                have HD5 : Hid (wd5 = wd4 ++ [os[k].l]) := hd5'
                clear hd5'
                go_wp2_with (at_builtin; go_must (refine Rw.addText rfl (.tmp 58) (.tmp 60) rfl w w5 v2 v5 ws2 wd5 os[k].v rfl rfl HS5 (by omega) (by omega) ?_))
                intro v6 w6 HS6 HK6
                have HB6 : Hid (Rd.Blk w6 wr.heap.size os[k]) := HK6 _ _ HB5.out
                clear HS5 HB5 e0 e1 e2 e3 hz HK6
                obtain ⟨e0, e1, e2, e3, hz⟩ := Rd.cells HB6.out
                obtain ⟨wd6, hd6'⟩ : ∃ x, x = wd5 ++ B os[k].v := ⟨_, rfl⟩
                rw [← hd6'] at HS6
                have HD6 : Hid (wd6 = wd5 ++ B os[k].v) := hd6'
                clear hd6'
                have hcv := Rw.convert HS6.out.b
                go_wp2_with (at_builtin; go_must (refine Rw.addWord rfl (.tmp 62) (.tmp 65) rfl w w6 v2 v6 ws2 wd6 (Str wd6) rfl rfl HS6 (by omega) ?_))
                intro v7 w7 HS7 HK7
                go_wp2
                go_roundw
                case rel => exact ⟨k + 1, ws2 ++ [Str wd6], wd6, false, by omega, by go_num, rfl, HS7, Rd.step_in HI hlt HT HA HD5 HD6⟩
                case measure => simp [intOf]; omega
              · have HT : Hid (takes (B s) os[k].l = true) := ht
                have HA : Hid (inside os[k] = false) := Rd.in_false hve
                go_wp2_with (at_builtin; go_must (refine Rw.addByte rfl (.tmp 45) (.tmp 48) rfl w w4 v2 v4 ws2 wd4 os[k].l rfl rfl HS4 (by omega) ?_))
                intro v5 w5 HS5 HK5
                have HB5 : Hid (Rd.Blk w5 wr.heap.size os[k]) := HK5 _ _ HB4.out
                clear HS4 HB4 e0 e1 e2 e3 hz HK5
                obtain ⟨e0, e1, e2, e3, hz⟩ := Rd.cells HB5.out
                obtain ⟨wd5, hd5'⟩ : ∃ x, x = wd4 ++ [os[k].l] := ⟨_, rfl⟩
                have hl5 : wd5.length ≤ 6000000 := by rw [hd5']; simp; omega
                rw [← hd5'] at HS5
                have HD5 : Hid (wd5 = wd4 ++ [os[k].l]) := hd5'
                clear hd5'
                have hcv := Rw.convert HS5.out.b
                go_wp2_with (at_builtin; go_must (refine Rw.addWords rfl (.tmp 67) (.tmp 72) rfl w w5 v2 v5 ws2 wd5 (Str wd5) os[k].v rfl rfl HS5 (by omega) ?_))
                intro v7 w7 HS7 HK7
                go_wp2
                go_roundw
                case rel => exact ⟨k + 1, ws2 ++ [Str wd5, os[k].v], wd5, false, by omega, by go_num, rfl, HS7, Rd.step_out HI hlt HT HA HD5⟩
                case measure => simp [intOf]; omega
    · cases b
      · go_wp2
        go_ret
        exact ⟨_, ws, rfl, Rd.end_closed HI hlt, HS.out.a, HS.out.n⟩
      · obtain ⟨hn1, hn2⟩ := Rd.sizes HI.out ho hv
        have hcv := Rw.convert HS.out.b
        go_wp2_with (at_builtin; go_must (refine Rw.addWord rfl (.tmp 75) (.tmp 78) rfl w wr u5 u6 ws wd (Str wd) rfl rfl HS (by omega) ?_))
        intro v2 w2 HS2 HK2
        go_wp2
        go_ret
        exact ⟨_, ws ++ [Str wd], rfl, Rd.end_open HI hlt, HS2.out.a, HS2.out.n⟩

end Go.Proofs.Qxb6601022a
