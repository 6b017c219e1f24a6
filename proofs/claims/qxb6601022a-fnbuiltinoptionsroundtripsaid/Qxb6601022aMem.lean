import Derived.Test.Qxb6601022aSpec
namespace Go.Proofs.Qxb6601022a
open Go.RowKit Go.Proofs.Qxb6601022a.Pl

/-- the four cells of an option -/
def OptAt (w : World) (b o : Nat) (p : Opt) : Prop :=
  w.cell? ⟨b, o, Option.none⟩ = some (.int .u8 p.l.toNat) ∧ w.cell? ⟨b, o + 1, Option.none⟩ = some (.string p.v) ∧
  w.cell? ⟨b, o + 2, Option.none⟩ = some (.bool p.nw) ∧ w.cell? ⟨b, o + 3, Option.none⟩ = some (.bool p.att)

/-- a slice of options: no element, or a row of them -/
def OptsV (w : World) (a : Option Addr) (os : List Opt) : Prop := os = [] ∨ ∃ b off, a = some ⟨b, off, Option.none⟩ ∧ ∀ i (h : i < os.length), OptAt w b (off + i * 4) os[i]

/-- a slice of strings: no element, or a row of them -/
def StrsV (w : World) (a : Option Addr) (xs : List ByteArray) : Prop := xs = [] ∨ ∃ b off, a = some ⟨b, off, Option.none⟩ ∧ ∀ i (h : i < xs.length), w.cell? ⟨b, off + i, Option.none⟩ = some (.string xs[i])

theorem Mm.drewN_cell {w wr : World} (h : Hid (∃ q, wr = w.drewN q)) (a : Addr) : wr.cell? a = w.cell? a := by
  obtain ⟨q, hq⟩ := h.out
  rw [hq]; simp

theorem OptsV.at {w wr : World} {a : Option Addr} {os : List Opt} (h : OptsV w a os) (hc : ∀ a, wr.cell? a = w.cell? a) {k : Nat} (hk : k < os.length) : ∃ b off, a = some ⟨b, off, Option.none⟩ ∧ OptAt wr b (off + k * 4) os[k] := by
  rcases h with h | ⟨b, off, ha, h⟩
  · subst h; simp at hk
  · obtain ⟨h0, h1, h2, h3⟩ := h k hk
    exact ⟨b, off, ha, (hc _).trans h0, (hc _).trans h1, (hc _).trans h2, (hc _).trans h3⟩

theorem StrsV.at {w wr : World} {a : Option Addr} {xs : List ByteArray} (h : StrsV w a xs) (hc : ∀ a, wr.cell? a = w.cell? a) {k : Nat} (hk : k < xs.length) : ∃ b off, a = some ⟨b, off, Option.none⟩ ∧ wr.cell? ⟨b, off + k, Option.none⟩ = some (.string xs[k]) := by
  rcases h with h | ⟨b, off, ha, h⟩
  · subst h; simp at hk
  · exact ⟨b, off, ha, (hc _).trans (h k hk)⟩

theorem Mm.drawn {w wr : World} (h : Hid (∃ q, wr = w.drewN q)) (n : Nat) : ∃ q, wr.drewN n = w.drewN q := by
  obtain ⟨q, hq⟩ := h.out
  exact ⟨q + n, by rw [hq, World.drewN_drewN]⟩

theorem Mm.valid_step {s : List UInt8} {os : List Opt} {k : Nat} (h : Valid s (os.take k)) (hk : k < os.length) (h1 : os[k].l ≠ 45) (h2 : known s os[k].l = true) : Valid s (os.take (k + 1)) := by
  intro o ho
  rw [List.take_succ_eq_append_getElem hk] at ho
  rcases List.mem_append.1 ho with h3 | h3
  · exact h o h3
  · simp at h3; subst h3; exact ⟨h1, h2⟩

set_option maxHeartbeats 400000 in
theorem Mm.valid (s : ByteArray) (a : Option Addr) (c : Nat) (os : List Opt) (w : World) (hs : s.size ≤ 1048576) (ho : os.length ≤ 1048576) (HO : Hid (OptsV w a os)) :
    Calls Try.prog 12 #[.string s, .slice a os.length c] w fun e w' => ∃ r : Bool, e = .returned (.bool r) ∧ (r = true → Valid (B s) os) ∧ ∃ q, w' = w.drewN q := by
  go_enter Try.func12, Try.ntmps12
  go_wp2
  go_loopw [5] (fun i wr => ∃ k : Nat, k ≤ os.length ∧ i = .int .i64 k ∧ Hid (Valid (B s) (os.take k)) ∧ Hid (∃ q, wr = w.drewN q)) (fun i _ => os.length - (intOf i).toNat)
  case atStart => exact ⟨0, Nat.zero_le _, rfl, fun o ho => by simp at ho, 0, rfl⟩
  case round =>
    obtain ⟨k, hk, rfl, HV, HW⟩ := hrel
    by_cases hlt : k < os.length
    · obtain ⟨b, off, rfl, hcell, _⟩ := HO.out.at (Mm.drewN_cell HW) hlt
      by_cases hd : os[k].l = 45
      · have hb : ((os[k].l.toNat : Int) == 45) = true := by rw [hd]; rfl
        clear hd
        go_wp2
        go_ret
        exact ⟨false, rfl, (fun h => by cases h), HW.out⟩
      · have hb := Sl.dash hd
        have HD : Hid (os[k].l ≠ 45) := hd
        clear hd
        cases hkn : known (B s) os[k].l
        · go_wp2_with (go_at_call 17; refine (Sl.spec s os[k].l _ hs).mono ?_; rintro e w1 ⟨rfl, q1, rfl⟩)
          go_ret
          exact ⟨false, rfl, (fun h => by cases h), Mm.drawn HW q1⟩
        · go_wp2_with (go_at_call 17; refine (Sl.spec s os[k].l _ hs).mono ?_; rintro e w1 ⟨rfl, q1, rfl⟩)
          go_roundw
          case rel => exact ⟨k + 1, by omega, by go_num, Mm.valid_step HV.out hlt HD.out hkn, Mm.drawn HW q1⟩
          case measure => simp [intOf]; omega
    · go_wp2
      go_ret
      exact ⟨true, rfl, fun _ => by have := HV.out; rwa [List.take_of_length_le (by omega)] at this, HW.out⟩

/-- optsBytes: whatever it counts -/
theorem Mm.optsBytes (a : Option Addr) (c : Nat) (os : List Opt) (w : World) (ho : os.length ≤ 1048576) (HO : Hid (OptsV w a os)) (hv : ∀ o ∈ os, o.v.size ≤ 1048576) :
    Calls Try.prog 10 #[.slice a os.length c] w fun e w' => ∃ n : Nat, e = .returned (.int .i64 n) ∧ n ≤ 2199023255552 ∧ w' = w := by
  go_enter Try.func10, Try.ntmps10
  go_wp2
  go_loop [3, 4] (fun t i => ∃ k n : Nat, k ≤ os.length ∧ i = .int .i64 k ∧ t = .int .i64 n ∧ n ≤ 50331648 + 1048576 * k) (fun _ i => os.length - (intOf i).toNat)
  case atStart => exact ⟨0, 48 * os.length, Nat.zero_le _, rfl, by go_num, by omega⟩
  case round =>
    obtain ⟨k, n, hk, rfl, rfl, hn⟩ := hrel
    by_cases hlt : k < os.length
    · obtain ⟨b, off, rfl, _, hcell, _⟩ := HO.out.at (fun _ => rfl) hlt
      have hvk := hv os[k] (List.getElem_mem _)
      by_cases hle : (n : Int) ≤ 1048576
      · go_wp2
        go_round
        case rel => exact ⟨k + 1, n + os[k].v.size, by omega, by go_num, by go_num, by omega⟩
        case measure => simp [intOf]; omega
      · go_wp2
        go_ret
        exact ⟨n, rfl, by omega, rfl⟩
    · go_wp2
      go_ret
      exact ⟨n, rfl, by omega, rfl⟩

theorem Mm.wordsBytes (a : Option Addr) (c : Nat) (xs : List ByteArray) (w : World) (ho : xs.length ≤ 1048576) (HO : Hid (StrsV w a xs)) (hv : ∀ x ∈ xs, x.size ≤ 1048576) :
    Calls Try.prog 11 #[.slice a xs.length c] w fun e w' => ∃ n : Nat, e = .returned (.int .i64 n) ∧ n ≤ 2199023255552 ∧ w' = w := by
  go_enter Try.func11, Try.ntmps11
  go_wp2
  go_loop [3, 4] (fun t i => ∃ k n : Nat, k ≤ xs.length ∧ i = .int .i64 k ∧ t = .int .i64 n ∧ n ≤ 50331648 + 1048576 * k) (fun _ i => xs.length - (intOf i).toNat)
  case atStart => exact ⟨0, 16 * xs.length, Nat.zero_le _, rfl, by go_num, by omega⟩
  case round =>
    obtain ⟨k, n, hk, rfl, rfl, hn⟩ := hrel
    by_cases hlt : k < xs.length
    · obtain ⟨b, off, rfl, hcell⟩ := HO.out.at (fun _ => rfl) hlt
      have hvk := hv xs[k] (List.getElem_mem _)
      by_cases hle : (n : Int) ≤ 1048576
      · go_wp2
        go_round
        case rel => exact ⟨k + 1, n + xs[k].size, by omega, by go_num, by go_num, by omega⟩
        case measure => simp [intOf]; omega
      · go_wp2
        go_ret
        exact ⟨n, rfl, by omega, rfl⟩
    · go_wp2
      go_ret
      exact ⟨n, rfl, by omega, rfl⟩

def wordBytes (xs : List ByteArray) : Nat := (xs.map ByteArray.size).sum

theorem Mm.val_step {os : List Opt} {k : Nat} (hk : k < os.length) : valBytes (os.take (k + 1)) = valBytes (os.take k) + os[k].v.size := by
  rw [List.take_succ_eq_append_getElem hk]; unfold valBytes; rw [List.map_append, List.sum_append]; simp

theorem Mm.word_step {xs : List ByteArray} {k : Nat} (hk : k < xs.length) : wordBytes (xs.take (k + 1)) = wordBytes (xs.take k) + xs[k].size := by
  rw [List.take_succ_eq_append_getElem hk]; unfold wordBytes; rw [List.map_append, List.sum_append]; simp

/-- a Bool comes back; where it is true, Q holds; the world is as it was -/
def RetB (w : World) (Q : Prop) (e : Ending) (w' : World) : Prop := ∃ r : Bool, e = .returned (.bool r) ∧ (r = true → Q) ∧ w' = w

set_option maxHeartbeats 1000000 in
theorem Mm.zz (s : ByteArray) (a1 : Option Addr) (c1 : Nat) (os : List Opt) (a2 : Option Addr) (c2 : Nat) (xs : List ByteArray) (d : Bool) (w : World) (HO : Hid (OptsV w a1 os)) (HX : Hid (StrsV w a2 xs)) :
    Calls Try.prog 9 #[.string s, .slice a1 os.length c1, .slice a2 xs.length c2, .bool d] w fun e w' => RetB w (s.size + os.length + valBytes os + xs.length + wordBytes xs ≤ 1048576) e w' := by
  have no : ∀ P : Prop, (false = true → P) := fun P h => by cases h
  by_cases g1 : (1048576 : Int) < s.size
  · go_enter Try.func9, Try.ntmps9
    go_wp2
    go_ret
    exact ⟨false, rfl, no _, rfl⟩
  by_cases g2 : (1048576 : Int) < os.length
  · go_enter Try.func9, Try.ntmps9
    go_wp2
    go_ret
    exact ⟨false, rfl, no _, rfl⟩
  by_cases g3 : (1048576 : Int) < s.size + os.length
  · go_enter Try.func9, Try.ntmps9
    go_wp2
    go_ret
    exact ⟨false, rfl, no _, rfl⟩
  go_enter Try.func9, Try.ntmps9
  go_wp2
  go_loop [9, 10] (fun t i => ∃ k n : Nat, k ≤ os.length ∧ i = .int .i64 k ∧ t = .int .i64 n ∧ n ≤ 1048576 ∧ Hid (n = s.size + os.length + valBytes (os.take k))) (fun _ i => os.length - (intOf i).toNat)
  case atStart => exact ⟨0, s.size + os.length, Nat.zero_le _, rfl, by go_num, by omega, by show _ = _; simp [valBytes]⟩
  case round =>
    obtain ⟨k, n, hk, rfl, rfl, hn, HN⟩ := hrel
    by_cases hlt : k < os.length
    · obtain ⟨b, off, rfl, _, hcell, _⟩ := HO.out.at (fun _ => rfl) hlt
      by_cases g4 : (1048576 : Int) < os[k].v.size
      · go_wp2
        go_ret
        exact ⟨false, rfl, no _, rfl⟩
      by_cases g5 : (1048576 : Int) < n + os[k].v.size
      · go_wp2
        go_ret
        exact ⟨false, rfl, no _, rfl⟩
      go_wp2
      go_round
      case rel => exact ⟨k + 1, n + os[k].v.size, by omega, by go_num, by go_num, by omega, by show _ = _; rw [Mm.val_step hlt, HN.out]; omega⟩
      case measure => simp [intOf]; omega
    · have HN' : Hid (n = s.size + os.length + valBytes os) := by have := HN.out; rwa [List.take_of_length_le (by omega)] at this
      clear HN
      by_cases g6 : (1048576 : Int) < xs.length
      · go_wp2
        go_ret
        exact ⟨false, rfl, no _, rfl⟩
      by_cases g7 : (1048576 : Int) < n + xs.length
      · go_wp2
        go_ret
        exact ⟨false, rfl, no _, rfl⟩
      go_wp2
      go_loop [9, 11] (fun t i => ∃ k m : Nat, k ≤ xs.length ∧ i = .int .i64 k ∧ t = .int .i64 m ∧ m ≤ 1048576 ∧ Hid (m = n + xs.length + wordBytes (xs.take k))) (fun _ i => xs.length - (intOf i).toNat)
      case atStart => exact ⟨0, n + xs.length, Nat.zero_le _, rfl, by go_num, by omega, by show _ = _; simp [wordBytes]⟩
      case round =>
        obtain ⟨k, m, hk, rfl, rfl, hm, HM⟩ := hrel
        by_cases hlt : k < xs.length
        · obtain ⟨b, off, rfl, hcell⟩ := HX.out.at (fun _ => rfl) hlt
          by_cases g4 : (1048576 : Int) < xs[k].size
          · go_wp2
            go_ret
            exact ⟨false, rfl, no _, rfl⟩
          by_cases g5 : (1048576 : Int) < m + xs[k].size
          · go_wp2
            go_ret
            exact ⟨false, rfl, no _, rfl⟩
          go_wp2
          go_round
          case rel => exact ⟨k + 1, m + xs[k].size, by omega, by go_num, by go_num, by omega, by show _ = _; rw [Mm.word_step hlt, HM.out]; omega⟩
          case measure => simp [intOf]; omega
        · go_wp2
          go_ret
          refine ⟨true, rfl, fun _ => ?_, rfl⟩
          have h1 := HM.out
          have h2 := HN'.out
          rw [List.take_of_length_le (by omega)] at h1
          omega

end Go.Proofs.Qxb6601022a
