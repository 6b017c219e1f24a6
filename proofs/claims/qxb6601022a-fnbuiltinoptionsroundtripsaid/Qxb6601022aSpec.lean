import Derived.Test.Qxb6601022aRows
import Derived.Test.Qxb6601022aPlain
import Derived.Test.Qxb6601022aShelf
import Derived.WalkKit
import Derived.WalkLawsBesides
import Derived.Deep.QuietTactic
import Derived.BigQuiet
namespace Go.Proofs.Qxb6601022a
open Go.RowKit Go.Proofs.Qxb6601022a.Pl

/-- the k-th byte is the first that is c -/
theorem Sl.first {l : List UInt8} {c : UInt8} {k : Nat} (h : l[k]? = some c) (hn : ∀ j, j < k → l[j]? ≠ some c) : Lib.indexByte l c = k := by
  have hg := Lib.indexByte_ge l c
  by_cases h1 : Lib.indexByte l c = -1
  · exact absurd h (Lib.indexByte_none h1 k)
  · obtain ⟨o, ho⟩ : ∃ o : Nat, Lib.indexByte l c = o := ⟨(Lib.indexByte l c).toNat, by omega⟩
    obtain ⟨h2, h3⟩ := Lib.indexByte_some ho
    rcases Nat.lt_trichotomy o k with hlt | heq | hgt
    · exact absurd h2 (hn o hlt)
    · rw [ho, heq]
    · exact absurd h (h3 k hgt)

theorem Sl.none {l : List UInt8} {c : UInt8} (hn : ∀ j, j < l.length → l[j]? ≠ some c) : Lib.indexByte l c = -1 := by
  have hg := Lib.indexByte_ge l c
  by_cases h1 : Lib.indexByte l c = -1
  · exact h1
  · obtain ⟨o, ho⟩ : ∃ o : Nat, Lib.indexByte l c = o := ⟨(Lib.indexByte l c).toNat, by omega⟩
    obtain ⟨h2, _⟩ := Lib.indexByte_some ho
    have hl : o < l.length := by
      rcases Nat.lt_or_ge o l.length with hh | hh
      · exact hh
      · rw [List.getElem?_eq_none hh] at h2; cases h2
    exact absurd h2 (hn o hl)

theorem Sl.at (s : ByteArray) (k : Nat) (h : k < s.size) : (B s)[k]? = some s[k] := by
  have : k < s.data.toList.length := by simpa using h
  rw [List.getElem?_eq_getElem this]; rfl

theorem Sl.u8 {a b : UInt8} (h : a ≠ b) : ((a.toNat : Int) == (b.toNat : Int)) = false := by
  simp only [beq_eq_false_iff_ne, ne_eq]
  intro e
  exact h (UInt8.toNat_inj.1 (by omega))

theorem Sl.u8n {a : UInt8} {n : Nat} (hn : n < 256) (h : a ≠ UInt8.ofNat n) : ((a.toNat : Int) == (n : Int)) = false := by
  simp only [beq_eq_false_iff_ne, ne_eq]
  intro e
  apply h
  apply UInt8.toNat_inj.1
  simp
  omega

theorem Sl.colon {a : UInt8} (h : a ≠ 58) : ((a.toNat : Int) == 58) = false := Sl.u8n (n := 58) (by omega) h
theorem Sl.dash {a : UInt8} (h : a ≠ 45) : ((a.toNat : Int) == 45) = false := Sl.u8n (n := 45) (by omega) h

theorem Sl.ret {a b c d : Bool} (h1 : a = c) (h2 : b = d) : Ending.returned (.tuple #[.bool a, .bool b]) = .returned (.tuple #[.bool c, .bool d]) := by rw [h1, h2]

theorem Sl.found {s : ByteArray} {c : UInt8} {k : Nat} {h : k < s.size} (HC : Hid (c ≠ 58)) (HE : Hid (s[k] = c)) (HN : Hid (∀ j, j < k → (B s)[j]? ≠ some c)) :
    Lib.indexByte (B s) c = k ∧ known (B s) c = true := by
  have h1 : Lib.indexByte (B s) c = k := Sl.first (by rw [Sl.at s k h, HE.out]) HN.out
  refine ⟨h1, ?_⟩
  unfold known
  rw [h1]
  have h2 : (c != 58) = true := by simpa using HC.out
  simp [h2]

theorem Sl.end_yes {s : ByteArray} {c : UInt8} {k : Nat} {h : k < s.size} {h' : k + 1 < s.size} (HC : Hid (c ≠ 58)) (HE : Hid (s[k] = c)) (HN : Hid (∀ j, j < k → (B s)[j]? ≠ some c)) (HG : Hid (s[k + 1] = 58)) :
    Ending.returned (.tuple #[.bool true, .bool true]) = .returned (.tuple #[.bool (known (B s) c), .bool (takes (B s) c)]) := by
  obtain ⟨h1, h2⟩ := Sl.found HC HE HN
  refine Sl.ret h2.symm ?_
  unfold takes
  rw [h1, h2, Int.toNat_natCast, Sl.at s (k + 1) h', HG.out]
  rfl

theorem Sl.end_no {s : ByteArray} {c : UInt8} {k : Nat} {h : k < s.size} {h' : k + 1 < s.size} (HC : Hid (c ≠ 58)) (HE : Hid (s[k] = c)) (HN : Hid (∀ j, j < k → (B s)[j]? ≠ some c)) (HG : Hid (s[k + 1] ≠ 58)) :
    Ending.returned (.tuple #[.bool true, .bool false]) = .returned (.tuple #[.bool (known (B s) c), .bool (takes (B s) c)]) := by
  obtain ⟨h1, h2⟩ := Sl.found HC HE HN
  refine Sl.ret h2.symm ?_
  unfold takes
  rw [h1, h2, Int.toNat_natCast, Sl.at s (k + 1) h']
  simpa using HG.out

theorem Sl.end_last {s : ByteArray} {c : UInt8} {k : Nat} {h : k < s.size} (HC : Hid (c ≠ 58)) (HE : Hid (s[k] = c)) (HN : Hid (∀ j, j < k → (B s)[j]? ≠ some c)) (HG : ¬ (k : Int) + 1 < s.size) :
    Ending.returned (.tuple #[.bool true, .bool false]) = .returned (.tuple #[.bool (known (B s) c), .bool (takes (B s) c)]) := by
  obtain ⟨h1, h2⟩ := Sl.found HC HE HN
  refine Sl.ret h2.symm ?_
  unfold takes
  rw [h1, h2, Int.toNat_natCast, List.getElem?_eq_none (by rw [B_length]; omega)]
  rfl

theorem Sl.end_none {s : ByteArray} {c : UInt8} {k : Nat} (HN : Hid (∀ j, j < k → (B s)[j]? ≠ some c)) (hk : ¬ k < s.size) :
    Ending.returned (.tuple #[.bool false, .bool false]) = .returned (.tuple #[.bool (known (B s) c), .bool (takes (B s) c)]) := by
  have h1 : Lib.indexByte (B s) c = -1 := Sl.none (fun j hj => HN.out j (by rw [B_length] at hj; omega))
  have h2 : known (B s) c = false := by unfold known; rw [h1]; simp
  refine Sl.ret h2.symm ?_
  unfold takes
  rw [h2]; rfl

theorem Sl.more {s : ByteArray} {c : UInt8} {k : Nat} {h : k < s.size} (HN : Hid (∀ j, j < k → (B s)[j]? ≠ some c)) (HE : Hid (s[k] ≠ c)) : Hid (∀ j, j < k + 1 → (B s)[j]? ≠ some c) := by
  intro j hj
  rcases Nat.lt_succ_iff_lt_or_eq.1 hj with h1 | h1
  · exact HN.out j h1
  · subst h1
    rw [Sl.at s j h]
    intro e
    exact HE.out (Option.some.inj e)

set_option maxHeartbeats 400000 in
theorem Sl.spec (s : ByteArray) (c : UInt8) (w : World) (hs : s.size ≤ 1048576) :
    Calls Try.prog 17 #[.string s, .int .u8 c.toNat] w fun e w' => e = .returned (.tuple #[.bool (known (B s) c), .bool (takes (B s) c)]) ∧ ∃ q, w' = w.drewN q := by
  by_cases hc : c = 58
  · subst hc
    go_enter Try.func17, Try.ntmps17
    go_wp2
    go_ret2
    exact ⟨rfl, 0, rfl⟩
  · have h58 := Sl.colon hc
    have HC : Hid (c ≠ 58) := hc
    clear hc
    go_enter Try.func17, Try.ntmps17
    go_wp2
    go_loop [6] (fun i => ∃ k : Nat, k ≤ s.size ∧ i = .int .i64 k ∧ Hid (∀ j, j < k → (B s)[j]? ≠ some c)) (fun i => s.size - (intOf i).toNat)
    case atStart => exact ⟨0, Nat.zero_le _, rfl, fun j hj => absurd hj (Nat.not_lt_zero _)⟩
    case round =>
      obtain ⟨k, hk, rfl, HN⟩ := hrel
      by_cases hlt : k < s.size
      · by_cases he : s[k] = c
        · have hb : ((s[k].toNat : Int) == (c.toNat : Int)) = true := by rw [he]; simp
          have HE : Hid (s[k] = c) := he
          clear he
          by_cases hg : (k : Int) + 1 < s.size
          · have h0 : (0 : Int) ≤ (k : Int) + 1 := by omega
            by_cases h5 : s[k + 1]'(by omega) = 58
            · have hb5 : (((s[k + 1]'(by omega)).toNat : Int) == 58) = true := by rw [h5]; rfl
              have HG : Hid (s[k + 1]'(by omega) = 58) := h5
              clear h5
              go_wp2
              go_quiet (fail)
              go_wp2
              go_ret2
              exact ⟨Sl.end_yes HC HE HN HG, nq, rfl⟩
            · have hb5 := Sl.colon h5
              have HG : Hid (s[k + 1]'(by omega) ≠ 58) := h5
              clear h5
              go_wp2
              go_quiet (fail)
              go_wp2
              go_ret2
              exact ⟨Sl.end_no HC HE HN HG, nq, rfl⟩
          · have hd : decide ((k : Int) + 1 < s.size) = false := by simpa using hg
            go_wp2
            go_quiet (fail)
            go_wp2
            go_ret2
            exact ⟨Sl.end_last HC HE HN (by omega), nq, rfl⟩
        · have hb := Sl.u8 he
          have HE : Hid (s[k] ≠ c) := he
          clear he
          go_wp2
          go_round
          case rel => exact ⟨k + 1, by omega, by go_num, Sl.more HN HE⟩
          case measure => simp [intOf]; omega
      · go_wp2
        go_ret2
        exact ⟨Sl.end_none HN hlt, 0, rfl⟩

end Go.Proofs.Qxb6601022a
