import Derived.Test.Qxb6601022aZz
import Derived.Test.Qxb6601022aRender
namespace Go.Proofs.Qxb6601022a
open Go.RowKit Go.Proofs.Qxb6601022a.Pl

/-- is the terminator written -/
def Tp.dd (R : List ByteArray) (d : Bool) : Bool := d || match R with | [] => false | r :: _ => decide (2 ≤ r.size) && (B r)[0]? == some 45

theorem Tp.plainly {R : List ByteArray} {d : Bool} (h : Tp.dd R d = false) : Plainly (R.map B) := by
  unfold Tp.dd at h
  cases R with
  | nil => intro a t e; cases e
  | cons r R =>
    intro a t e
    simp only [List.map_cons, List.cons.injEq] at e
    simp only [Bool.or_eq_false_iff, Bool.and_eq_false_iff, decide_eq_false_iff_not] at h
    rw [← e.1, B_length]
    intro h2
    rcases h.2 with h3 | h3
    · exact h3 h2.1
    · rw [h2.2] at h3; simp at h3

theorem Tp.below_drawn {w w1 : World} (h : ∃ q, w1 = w.drewN q) : Below w.heap.size w w1 := by
  obtain ⟨q, rfl⟩ := h; exact ⟨rfl, rfl, rfl, Nat.le_refl _, fun _ _ => rfl⟩

theorem Tp.sum_le : ∀ {l : List Nat} {x : Nat}, x ∈ l → x ≤ l.sum
  | a :: l, x, h => by
    rcases List.mem_cons.1 h with e | e
    · simp; omega
    · have := Tp.sum_le e; simp; omega

theorem Tp.val_le {os : List Opt} {o : Opt} (h : o ∈ os) (hv : valBytes os ≤ 1048576) : o.v.size ≤ 1048576 := by
  have : o.v.size ≤ valBytes os := Tp.sum_le (List.mem_map.2 ⟨o, h, rfl⟩)
  omega

theorem Tp.word_le {R : List ByteArray} {x : ByteArray} {n : Nat} (h : x ∈ R) (hv : n + wordBytes R ≤ 1048576) : x.size ≤ 1048576 := by
  have : x.size ≤ wordBytes R := Tp.sum_le (List.mem_map.2 ⟨x, h, rfl⟩)
  omega

theorem Tp.words_len {s : List UInt8} {os : List Opt} {ws : List ByteArray} (h : ws.map B = closed s os) (ho : os.length ≤ 1048576) : ws.length ≤ 2097152 := by
  have h1 := (closed_size s os).2
  rw [← h, List.length_map] at h1
  omega

theorem Tp.more {L : List (List UInt8)} {ys R : List ByteArray} {k : Nat} (h : Hid (ys.map B = L ++ (R.take k).map B)) (hk : k < R.length) : Hid ((ys ++ [R[k]]).map B = L ++ (R.take (k + 1)).map B) := by
  have e : (ys ++ [R[k]]).map B = ys.map B ++ [B R[k]] := by simp
  have h1 : (ys ++ [R[k]]).map B = L ++ (R.take (k + 1)).map B := by
    rw [e, h.out, take_map_succ R B k hk, List.append_assoc]
  exact h1

theorem Tp.mem_bytes {l : List UInt8} {ws : List (List UInt8)} (h : l ∈ ws) : l.length ≤ bytesOf ws := Tp.sum_le (List.mem_map.2 ⟨l, h, rfl⟩)

theorem Tp.bytes_words (R : List ByteArray) : bytesOf (R.map B) = wordBytes R := by
  unfold bytesOf wordBytes
  rw [List.map_map]
  congr 1

theorem Tp.sizes {s : List UInt8} {os : List Opt} {D : Bool} {ys R : List ByteArray} {n : Nat} (h : ys.map B = closed s os ++ (if D then [[45, 45]] else []) ++ R.map B) (hs : n + os.length + valBytes os + R.length + wordBytes R ≤ 1048576) : ∀ y ∈ ys, y.size ≤ 4194304 := by
  intro y hy
  have h1 : B y ∈ ys.map B := List.mem_map.2 ⟨y, hy, rfl⟩
  have h2 := Tp.mem_bytes h1
  rw [h, bytesOf_append, bytesOf_append, B_length, Tp.bytes_words] at h2
  have h3 := (closed_size s os).1
  have h4 : bytesOf (if D then [[45, 45]] else []) ≤ 2 := by cases D <;> simp [bytesOf]
  omega

theorem Tp.letter_cell {w wr : World} {al : Option Addr} {s : List UInt8} {os : List Opt} (h : Hid (BytesV w al ((expect s os).map Prod.fst))) (hc : ∀ a, wr.cell? a = w.cell? a) {k : Nat} (hk : k < os.length) :
    ∃ b off, al = some ⟨b, off, Option.none⟩ ∧ wr.cell? ⟨b, off + k, Option.none⟩ = some (.int .u8 os[k].l.toNat) := by
  have hl : k < ((expect s os).map Prod.fst).length := by simpa [expect] using hk
  rcases h.out with h | ⟨b, off, ha, h⟩
  · rw [h] at hl; simp at hl
  · refine ⟨b, off, ha, ?_⟩
    rw [hc, h k hl]
    simp [expect]

theorem Tp.value_cell {w wr : World} {av : Option Addr} {s : List UInt8} {os : List Opt} (h : Hid (StrsV w av ((expect s os).map Prod.snd))) (hc : ∀ a, wr.cell? a = w.cell? a) {k : Nat} (hk : k < os.length) :
    ∃ b off, av = some ⟨b, off, Option.none⟩ ∧ wr.cell? ⟨b, off + k, Option.none⟩ = some (.string (if takes s os[k].l then os[k].v else ByteArray.empty)) := by
  have hl : k < ((expect s os).map Prod.snd).length := by simpa [expect] using hk
  rcases h.out with h | ⟨b, off, ha, h⟩
  · rw [h] at hl; simp at hl
  · refine ⟨b, off, ha, ?_⟩
    rw [hc, h k hl]
    simp [expect]

theorem Tp.dd_none {R : List ByteArray} (h : ¬ 0 < R.length) : Tp.dd R false = false := by
  cases R with
  | nil => rfl
  | cons r R => simp at h

theorem Tp.dd_short {R : List ByteArray} (h : 0 < R.length) (h2 : R[0].size < 2) : Tp.dd R false = false := by
  cases R with
  | nil => simp at h
  | cons r R =>
    have h2' : r.size < 2 := h2
    show (false || (decide (2 ≤ r.size) && (B r)[0]? == some 45)) = false
    have : decide (2 ≤ r.size) = false := by simpa using h2'
    simp [this]

theorem Tp.dd_yes {R : List ByteArray} (h : 0 < R.length) (h2 : 2 ≤ R[0].size) (h0 : R[0][0] = 45) : Tp.dd R false = true := by
  cases R with
  | nil => simp at h
  | cons r R =>
    have h2' : 2 ≤ r.size := h2
    have h0' : r[0] = 45 := h0
    show (false || (decide (2 ≤ r.size) && (B r)[0]? == some 45)) = true
    have h1 : decide (2 ≤ r.size) = true := by simpa using h2'
    rw [Sl.at r 0 (by omega), h0', h1]
    rfl

theorem Tp.dd_no {R : List ByteArray} (h : 0 < R.length) (h2 : 2 ≤ R[0].size) (h0 : R[0][0] ≠ 45) : Tp.dd R false = false := by
  cases R with
  | nil => simp at h
  | cons r R =>
    have h2' : 2 ≤ r.size := h2
    have h0' : r[0] ≠ 45 := h0
    show (false || (decide (2 ≤ r.size) && (B r)[0]? == some 45)) = false
    have h3 : (some r[0] == some (45 : UInt8)) = false := by simpa using h0'
    rw [Sl.at r 0 (by omega), h3]
    simp

set_option maxRecDepth 100000 in
set_option maxHeartbeats 4000000 in
theorem Tp.top (s : ByteArray) (a1 : Option Addr) (c1 : Nat) (os : List Opt) (a2 : Option Addr) (c2 : Nat) (R : List ByteArray) (d : Bool) (w : World) (HO : Hid (OptsV w a1 os)) (HX : Hid (StrsV w a2 R)) :
    Calls Try.prog 3 #[.string s, .slice a1 os.length c1, .slice a2 R.length c2, .bool d] w fun e w' => e = .returned (.bool true) ∧ Below w.heap.size w w' := by
  go_enter Try.func3, Try.ntmps3
  go_wp2_with fail
  refine (Mm.zz s a1 c1 os a2 c2 R d w HO HX).mono ?_
  rintro e w1 ⟨r, rfl, hr, hw⟩
  obtain rfl := hw.symm
  cases r
  · go_wp2
    go_ret
    exact ⟨rfl, Below.refl _ _⟩
  have hsum := hr rfl
  have HSum : Hid (s.size + os.length + valBytes os + R.length + wordBytes R ≤ 1048576) := hsum
  have hs : s.size ≤ 1048576 := by omega
  have ho : os.length ≤ 1048576 := by omega
  have hR : R.length ≤ 1048576 := by omega
  have hv : valBytes os ≤ 1048576 := by omega
  clear hr hsum hw
  by_cases g1 : (65536 : Int) < s.size
  · go_wp2
    go_ret
    exact ⟨rfl, Below.refl _ _⟩
  by_cases g2 : (65536 : Int) < os.length
  · go_wp2
    go_ret
    exact ⟨rfl, Below.refl _ _⟩
  by_cases g3 : (65536 : Int) < R.length
  · go_wp2
    go_ret
    exact ⟨rfl, Below.refl _ _⟩
  go_wp2_with fail
  refine (Mm.optsBytes a1 c1 os w ho HO (fun o h => Tp.val_le h hv)).mono ?_
  rintro e w1 ⟨n1, rfl, hn1, hw⟩
  obtain rfl := hw.symm
  go_wp2_with fail
  refine (Mm.wordsBytes a2 c2 R w hR HX (fun o h => Tp.word_le h HSum.out)).mono ?_
  rintro e w1 ⟨n2, rfl, hn2, hw⟩
  obtain rfl := hw.symm
  by_cases g4 : (1048576 : Int) < s.size + n1 + n2
  · go_wp2
    go_ret
    exact ⟨rfl, Below.refl _ _⟩
  clear hw
  go_wp2_with fail
  refine (Mm.valid s a1 c1 os w hs ho HO).mono ?_
  rintro e w1 ⟨r, rfl, hr, hq⟩
  cases r
  · go_wp2
    go_ret
    exact ⟨rfl, Tp.below_drawn hq⟩
  have HV : Hid (Valid (B s) os) := hr rfl
  have HB1 : Hid (Below w.heap.size w w1) := Tp.below_drawn hq
  have HO1 : Hid (OptsV w1 a1 os) := HO.out.below HB1.out
  clear hr hq
  go_wp2_with fail
  refine (Cl.opts a1 c1 os w1 ho HO1).mono ?_
  rintro e w2 ⟨a3, c3, rfl, hO, hB⟩
  have HB2 : Hid (Below w.heap.size w w2) := HB1.out.trans (hB.mono HB1.out.size)
  have HO2 : Hid (OptsV w2 a3 os) := hO
  have HX2 : Hid (StrsV w2 a2 R) := HX.out.below HB2.out
  clear hO hB HB1 HO1
  go_wp2_with fail
  refine (Cl.words a2 c2 R w2 hR HX2).mono ?_
  rintro e w3 ⟨a4, c4, rfl, hX, hB⟩
  have HB3 : Hid (Below w.heap.size w w3) := HB2.out.trans (hB.mono HB2.out.size)
  have HO3 : Hid (OptsV w3 a3 os) := HO2.out.below hB
  have HX3 : Hid (StrsV w3 a4 R) := hX
  clear hX hB HB2 HO2 HX2
  go_wp2_with fail
  refine (Rd.render s a3 c3 os w3 hs ho hv HO3).mono ?_
  rintro e w4 ⟨va, ws, rfl, hws, hW, hB⟩
  have HB4 : Hid (Below w.heap.size w w4) := HB3.out.trans (hB.mono HB3.out.size)
  have HO4 : Hid (OptsV w4 a3 os) := HO3.out.below hB
  have HX4 : Hid (StrsV w4 a4 R) := HX3.out.below hB
  have HW : Hid (ws.map B = closed (B s) os) := hws
  have HR : Hid (Rs w3 w4 va (.slice Option.none 0 0) ws []) := ⟨hW, World.ownsRow_nil _ _ _ _, hB⟩
  clear hws hW hB HB4 HO4
  go_upto_region 12 with fail
  go_cut [79] (fun t wc => t = .bool (Tp.dd R d) ∧ wc = w4)
  case first =>
    cases d
    · by_cases hl : 0 < R.length
      · obtain ⟨b, off, ha, hcell⟩ := HX4.out.at (fun _ => rfl) hl
        have hcell' : w4.cell? ⟨b, off, Option.none⟩ = some (.string R[0]) := hcell
        obtain ⟨r, hr⟩ : ∃ r, r = R[0] := ⟨_, rfl⟩
        rw [← hr] at hcell'
        have HRr : Hid (r = R[0]) := hr
        clear hcell hr
        subst ha
        by_cases h2 : (r.size : Int) < 2
        · go_wp2
          go_meet
          case rel => exact ⟨by rw [Tp.dd_short hl (by rw [← HRr.out]; omega)], rfl⟩
        · by_cases h3 : r[0] = 45
          · have hb : ((r[0].toNat : Int) == 45) = true := by rw [h3]; rfl
            have H3 : Hid (r[0] = 45) := h3
            clear h3
            go_wp2
            go_meet
            case rel => exact ⟨by have h3 := H3.out; have hr := HRr.out; subst hr; rw [Tp.dd_yes hl (by omega) h3], rfl⟩
          · have hb := Sl.dash h3
            have H3 : Hid (r[0] ≠ 45) := h3
            clear h3
            go_wp2
            go_meet
            case rel => exact ⟨by have h3 := H3.out; have hr := HRr.out; subst hr; rw [Tp.dd_no hl (by omega) h3], rfl⟩
      · go_wp2
        go_meet
        case rel => exact ⟨by rw [Tp.dd_none hl], rfl⟩
    · go_wp2
      go_meet
      case rel => exact ⟨rfl, rfl⟩
  case rest =>
    obtain ⟨rfl, rfl⟩ := hcut
    have hwl := Tp.words_len HW.out ho
    obtain ⟨D, hD⟩ : ∃ D, D = Tp.dd R d := ⟨_, rfl⟩
    rw [← hD]
    have HD : Hid (D = Tp.dd R d) := hD
    clear hD HX4
    go_upto_if 79 with fail
    go_cut [9] (fun v wc => ∃ xs, Hid (Rs w3 wc v (.slice Option.none 0 0) xs []) ∧ xs.length ≤ 2097153 ∧ Hid (xs.map B = closed (B s) os ++ (if D then [[45, 45]] else [])))
    case first =>
      cases D
      · go_wp2
        go_meet
        case rel => exact ⟨ws, HR, by omega, by show _ = _; rw [HW.out]; simp⟩
      · go_wp2_with (at_builtin; go_must (refine Rw.addWord rfl (.tmp 80) (.tmp 81) rfl w3 wc va (.slice Option.none 0 0) ws [] ⟨#[45, 45]⟩ rfl rfl HR (by omega) ?_))
        intro v2 w5 HR2 HK2
        go_wp2
        go_meet
        case rel => exact ⟨_, HR2, by simp; omega, by show _ = _; rw [List.map_append, HW.out]; rfl⟩
    case rest =>
      obtain ⟨xs, HR, hxl, HXs⟩ := hcut
      go_wp2
      go_loopw [9, 10] (fun v i wr => ∃ (k : Nat) (ys : List ByteArray), k ≤ R.length ∧ i = .int .i64 k ∧ ys.length ≤ 2097153 + k ∧ Hid (Rs w3 wr v (.slice Option.none 0 0) ys []) ∧ Hid (ys.map B = closed (B s) os ++ (if D then [[45, 45]] else []) ++ (R.take k).map B)) (fun _ i _ => R.length - (intOf i).toNat)
      case atStart => exact ⟨0, xs, Nat.zero_le _, rfl, by omega, HR, by show _ = _; rw [HXs.out]; simp⟩
      case round =>
        clear HR HXs hxl
        obtain ⟨k, ys, hk, rfl, hyl, HR, HYs⟩ := hrel
        by_cases hlt : k < R.length
        · obtain ⟨b, off, rfl, hcell⟩ := (HX3.out.below HR.out.n).at (fun _ => rfl) hlt
          go_wp2_with (at_builtin; go_must (refine Rw.addWord rfl (.tmp 89) (.tmp 94) rfl w3 wr u9 (.slice Option.none 0 0) ys [] R[k] rfl rfl HR (by omega) ?_))
          intro v2 w5 HR2 HK2
          go_wp2
          go_roundw
          case rel => exact ⟨k + 1, _, by omega, by go_num, by simp; omega, HR2, Tp.more HYs hlt⟩
          case measure => simp [intOf]; omega
        · obtain ⟨ax, cx, rfl, hcx, hSx⟩ := HR.out.a.seen
          have HY2 : Hid (ys.map B = closed (B s) os ++ (if D then [[45, 45]] else []) ++ R.map B) := by have := HYs.out; rwa [List.take_of_length_le (by omega)] at this
          have HSt : Hid (Bo.St (B s) os os ((if D then [[45, 45]] else []) ++ R.map B) wr ax ys []) := ⟨hSx, by rw [HY2.out, List.append_assoc], rfl, HV.out⟩
          have hsz := Tp.sizes HY2.out HSum.out
          have HPl : Hid (D = false → Plainly (R.map B)) := fun h => Tp.plainly (by rw [← HD.out]; exact h)
          have hyl2 : ys.length ≤ 4194304 := by omega
          clear hSx
          go_wp2_with fail
          refine (Zz.options s ax cx os ys R D wr hs ho hcx hyl2 hsz HSt HPl).mono ?_
          rintro e w6 ⟨al, cl, av, cv, ar, cr, bn, rfl, hL, hVv, hAr, hB⟩
          have HL : Hid (BytesV w6 al ((expect (B s) os).map Prod.fst)) := hL
          have HVv : Hid (StrsV w6 av ((expect (B s) os).map Prod.snd)) := hVv
          have HAr : Hid (StrsV w6 ar R) := hAr
          have HO6 : Hid (OptsV w6 a3 os) := (HO3.out.below HR.out.n).below hB
          have HX6 : Hid (StrsV w6 a4 R) := (HX3.out.below HR.out.n).below hB
          have HB6 : Hid (Below w.heap.size w w6) := HB3.out.trans ((HR.out.n.trans (hB.mono HR.out.n.size)).mono HB3.out.size)
          clear hL hVv hAr hB HSt hsz HPl HY2 HYs HR HO3 HX3 HB3 hyl2 hyl hcx
          go_wp2
          go_loopw [16] (fun i wr => ∃ k : Nat, k ≤ os.length ∧ i = .int .i64 k ∧ Hid (∃ q, wr = w6.drewN q)) (fun i _ => os.length - (intOf i).toNat)
          case atStart => exact ⟨0, Nat.zero_le _, rfl, 0, rfl⟩
          case round =>
            obtain ⟨k, hk, rfl, HW6⟩ := hrel
            by_cases hlt : k < os.length
            · obtain ⟨b1, o1, rfl, c0, c1, _⟩ := HO6.out.at (Mm.drewN_cell HW6) hlt
              go_wp2_with fail
              refine (Sl.spec s os[k].l _ hs).mono ?_
              rintro e w7 ⟨rfl, hq⟩
              have HW7 : Hid (∃ q, w7 = w6.drewN q) := by obtain ⟨q, rfl⟩ := hq; exact Mm.drawn HW6 q
              clear hq HW6 c0 c1
              obtain ⟨b1', o1', hb1, c0, c1, _⟩ := HO6.out.at (Mm.drewN_cell HW7) hlt
              obtain ⟨rfl, rfl⟩ : b1 = b1' ∧ o1 = o1' := by injection hb1 with hb1; injection hb1 with h1 h2; exact ⟨h1, h2⟩
              obtain ⟨b2, o2, rfl, c2⟩ := Tp.letter_cell HL (Mm.drewN_cell HW7) hlt
              obtain ⟨b3, o3, rfl, c3⟩ := Tp.value_cell HVv (Mm.drewN_cell HW7) hlt
              clear hb1
              cases ht : takes (B s) os[k].l
              · have c4 : w7.cell? ⟨b3, o3 + k, Option.none⟩ = some (.string ⟨#[]⟩) := by rw [c3, ht]; rfl
                clear c3
                go_wp2
                go_quiet (fail)
                go_wp2
                go_roundw
                case rel => exact ⟨k + 1, by omega, by go_num, Mm.drawn HW7 nq⟩
                case measure => simp [intOf]; omega
              · have c4 : w7.cell? ⟨b3, o3 + k, Option.none⟩ = some (.string os[k].v) := by rw [c3, ht]; rfl
                clear c3
                go_wp2
                go_quiet (fail)
                go_wp2
                go_roundw
                case rel => exact ⟨k + 1, by omega, by go_num, Mm.drawn HW7 nq⟩
                case measure => simp [intOf]; omega
            · clear HL HVv HO6
              have HB7 : Hid (Below w.heap.size w wr) := HB6.out.trans ((Tp.below_drawn HW6.out).mono HB6.out.size)
              have HAr7 : Hid (StrsV wr ar R) := HAr.out.below (Tp.below_drawn HW6.out)
              have HX7 : Hid (StrsV wr a4 R) := HX6.out.below (Tp.below_drawn HW6.out)
              clear HW6 HB6 HAr HX6
              go_wp2
              go_loopw [20] (fun i wr2 => ∃ k : Nat, k ≤ R.length ∧ i = .int .i64 k ∧ Hid (∃ q, wr2 = wr.drewN q)) (fun i _ => R.length - (intOf i).toNat)
              case atStart => exact ⟨0, Nat.zero_le _, rfl, 0, rfl⟩
              case round =>
                obtain ⟨k, hk, rfl, HW8⟩ := hrel
                by_cases hlt : k < R.length
                · obtain ⟨b1, o1, rfl, c0⟩ := HAr7.out.at (Mm.drewN_cell HW8) hlt
                  obtain ⟨b2, o2, rfl, c1⟩ := HX7.out.at (Mm.drewN_cell HW8) hlt
                  go_wp2
                  go_quiet (fail)
                  go_wp2
                  go_roundw
                  case rel => exact ⟨k + 1, by omega, by go_num, Mm.drawn HW8 nq⟩
                  case measure => simp [intOf]; omega
                · go_wp2
                  go_ret
                  exact ⟨rfl, HB7.out.trans ((Tp.below_drawn HW8.out).mono HB7.out.size)⟩

end Go.Proofs.Qxb6601022a
