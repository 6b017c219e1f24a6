import Derived.Test.Qxb6600197aRows
import Derived.Test.Qxb6600197aPlain
import Derived.Test.Qxb6600197aShelf
import Derived.WalkKit
import Derived.WalkLawsBesides
import Derived.Laws.BytesArg
import Derived.Deep.QuietTactic
import Derived.BigQuiet
namespace Go.Proofs.Qxb6600197a
open Go.RowKit Go.Proofs.Qxb6600197a.Pl

theorem Nm.index (s : ByteArray) (c : Int) (w : World) :
    Calls Try.prog 15 #[.string s, .int .u8 c] w fun e w' => e = .returned (.int .i64 (Lib.indexByte s.data.toList c.toNat.toUInt8)) ∧ w' = w := by
  go_enter Try.func15, Try.ntmps15
  go_wp2_with (go_at_call 17; refine (Try.stringslite_IndexByte _ _ _).mono ?_; rintro e w' ⟨rfl, rfl⟩)
  go_ret
  exact ⟨rfl, rfl⟩


theorem Nm.found10 : ∀ d : Fin 10, Lib.indexByte (ByteArray.extract { data := #[48, 49, 50, 51, 52, 53, 54, 55, 56, 57, 97, 98, 99, 100, 101, 102] } 0 10).data.toList (dg d.val).toNat.toUInt8 = (d.val : Int) := by decide +kernel
theorem Nm.found16 : ∀ d : Fin 16, Lib.indexByte (ByteArray.extract { data := #[48, 49, 50, 51, 52, 53, 54, 55, 56, 57, 97, 98, 99, 100, 101, 102] } 0 16).data.toList (dg d.val).toNat.toUInt8 = (d.val : Int) := by decide +kernel
theorem Nm.found8 : ∀ d : Fin 8, Lib.indexByte (ByteArray.extract { data := #[48, 49, 50, 51, 52, 53, 54, 55, 56, 57, 97, 98, 99, 100, 101, 102] } 0 8).data.toList (dg d.val).toNat.toUInt8 = (d.val : Int) := by decide +kernel

theorem Nm.idx10 (c : Int) (d : Nat) (w : World) (hc : Hid (c = dg d)) (hd : d < 10) :
    Calls Try.prog 15 #[.string (ByteArray.extract { data := #[48, 49, 50, 51, 52, 53, 54, 55, 56, 57, 97, 98, 99, 100, 101, 102] } 0 10), .int .u8 c] w fun e w' => e = .returned (.int .i64 d) ∧ w' = w := by
  refine (Nm.index _ c w).mono fun e w' h => ⟨?_, h.2⟩
  rw [h.1, hc.out, Nm.found10 ⟨d, hd⟩]
theorem Nm.idx16 (c : Int) (d : Nat) (w : World) (hc : Hid (c = dg d)) (hd : d < 16) :
    Calls Try.prog 15 #[.string (ByteArray.extract { data := #[48, 49, 50, 51, 52, 53, 54, 55, 56, 57, 97, 98, 99, 100, 101, 102] } 0 16), .int .u8 c] w fun e w' => e = .returned (.int .i64 d) ∧ w' = w := by
  refine (Nm.index _ c w).mono fun e w' h => ⟨?_, h.2⟩
  rw [h.1, hc.out, Nm.found16 ⟨d, hd⟩]
theorem Nm.idx8 (c : Int) (d : Nat) (w : World) (hc : Hid (c = dg d)) (hd : d < 8) :
    Calls Try.prog 15 #[.string (ByteArray.extract { data := #[48, 49, 50, 51, 52, 53, 54, 55, 56, 57, 97, 98, 99, 100, 101, 102] } 0 8), .int .u8 c] w fun e w' => e = .returned (.int .i64 d) ∧ w' = w := by
  refine (Nm.index _ c w).mono fun e w' h => ⟨?_, h.2⟩
  rw [h.1, hc.out, Nm.found8 ⟨d, hd⟩]

/-- s reads as the digits ds, each below b -/
def Nm.Reads (b : Nat) (s : ByteArray) (ds : List Nat) : Prop := ds.length = s.size ∧ ∀ k (h : k < s.size), (s[k].toNat : Int) = dg (ds.getD k 0) ∧ ds.getD k 0 < b

theorem Nm.step {b m d k : Nat} {ds : List Nat} (hm : Hid (m = acc b (ds.take k))) (hd : Hid (d = ds.getD k 0)) (hk : k < ds.length) : min (m * b + d) 4294967296 = acc b (ds.take (k + 1)) := by
  rw [List.take_succ_eq_append_getElem hk, acc_snoc, hm.out, hd.out]
  simp [List.getD, List.getElem?_eq_getElem hk]

theorem Nm.last {b m k n : Nat} {ds : List Nat} (hm : Hid (m = acc b (ds.take k))) (hl : ds.length = n) (hk : ¬ k < n) : m = acc b ds := by
  rw [hm.out, List.take_of_length_le (by omega)]

theorem Nm.drawn {w wr : World} (h : Hid (∃ q, wr = w.drewN q)) (n : Nat) : ∃ q, wr.drewN n = w.drewN q := by
  obtain ⟨q, hq⟩ := h.out
  exact ⟨q + n, by rw [hq, World.drewN_drewN]⟩

theorem Nm.ret2 {a b : Nat} (h : a = b) : Ending.returned (.tuple #[.int .u64 a, .bool true]) = .returned (.tuple #[.int .u64 b, .bool true]) := by rw [h]

theorem Nm.cut_no (s : ByteArray) (w : World) (h : Lib.hasPrefix s.data.toList [48, 120] = false) :
    Calls Try.prog 14 #[.string s, .string { data := #[48, 120] }] w fun e w' => e = .returned (.tuple #[.string s, .bool false]) ∧ w' = w := by
  refine (Try.strings_CutPrefix s { data := #[48, 120] } w).mono fun e w' hh => ⟨?_, hh.2⟩
  rw [hh.1]
  have h' : Lib.hasPrefix s.data.toList (ByteArray.mk #[48, 120]).data.toList = false := h
  rw [h']
  simp [Lib.trimPrefix, h]

theorem Nm.cut_yes (s t : ByteArray) (w : World) (h : s.data.toList = 48 :: 120 :: t.data.toList) :
    Calls Try.prog 14 #[.string s, .string { data := #[48, 120] }] w fun e w' => e = .returned (.tuple #[.string t, .bool true]) ∧ w' = w := by
  refine (Try.strings_CutPrefix s { data := #[48, 120] } w).mono fun e w' hh => ⟨?_, hh.2⟩
  rw [hh.1, h]
  simp [Lib.trimPrefix, Lib.hasPrefix]

set_option maxHeartbeats 400000 in
theorem Nm.ten_a (s : ByteArray) (ds : List Nat) (w : World) (hne : s.toList.isEmpty = false) (hp : Lib.hasPrefix s.data.toList [48, 120] = false) (h1 : s.size ≤ 1)
    (HR : Hid (Nm.Reads 10 s ds)) :
    Calls Try.prog 11 #[.string s] w fun e w' => e = .returned (.tuple #[.int .u64 (acc 10 ds), .bool true]) ∧ ∃ q, w' = w.drewN q := by
  go_enter Try.func11, Try.ntmps11
  go_wp2_with (go_at_call 14; refine (Nm.cut_no _ _ hp).mono ?_; rintro e w1 ⟨rfl, hw1⟩; obtain rfl := hw1.symm)
  go_loopw [2, 7] (fun n i wr => ∃ k m : Nat, k ≤ s.size ∧ i = .int .i64 k ∧ n = .int .u64 m ∧ m ≤ 4294967296 ∧ Hid (m = acc 10 (ds.take k)) ∧ Hid (∃ q, wr = w.drewN q))
    (fun _ i _ => s.size - (intOf i).toNat)
  case atStart => exact ⟨0, 0, Nat.zero_le _, rfl, rfl, by omega, rfl, 0, rfl⟩
  case round =>
    obtain ⟨k, m, hk, rfl, rfl, hm, HM, HW⟩ := hrel
    by_cases hlt : k < s.size
    · obtain ⟨d, hd⟩ : ∃ d, d = ds.getD k 0 := ⟨_, rfl⟩
      have hc := (HR.out.2 k hlt).1
      have hd9 := (HR.out.2 k hlt).2
      rw [← hd] at hc hd9
      have HD : Hid (d = ds.getD k 0) := hd
      have HC : Hid ((s[k].toNat : Int) = dg d) := hc
      clear hd hc
      go_wp2
      go_quiet ((go_at_call 15; exact Calls.quiet_of_same (Nm.idx10 _ d _ HC hd9)))
      go_wp2
      go_roundw
      case rel => exact ⟨k + 1, min (m * 10 + d) 4294967296, by omega, by go_num, by go_num, by omega, Nm.step HM HD (by have := HR.out.1; omega), Nm.drawn HW nq⟩
      case measure => simp [intOf]; omega
    · go_wp2
      go_ret2
      exact ⟨Nm.ret2 (Nm.last HM HR.out.1 hlt), HW.out⟩

set_option maxHeartbeats 400000 in
theorem Nm.ten_b (s : ByteArray) (ds : List Nat) (w : World) (hne : s.toList.isEmpty = false) (hp : Lib.hasPrefix s.data.toList [48, 120] = false) (h1 : 1 < s.size) (h2 : ((s[0].toNat : Int) == 48) = false) (hbig : s.size ≤ 9223372036854775807)
    (HR : Hid (Nm.Reads 10 s ds)) :
    Calls Try.prog 11 #[.string s] w fun e w' => e = .returned (.tuple #[.int .u64 (acc 10 ds), .bool true]) ∧ ∃ q, w' = w.drewN q := by
  go_enter Try.func11, Try.ntmps11
  go_wp2_with (go_at_call 14; refine (Nm.cut_no _ _ hp).mono ?_; rintro e w1 ⟨rfl, hw1⟩; obtain rfl := hw1.symm)
  go_loopw [2, 7] (fun n i wr => ∃ k m : Nat, k ≤ s.size ∧ i = .int .i64 k ∧ n = .int .u64 m ∧ m ≤ 4294967296 ∧ Hid (m = acc 10 (ds.take k)) ∧ Hid (∃ q, wr = w.drewN q))
    (fun _ i _ => s.size - (intOf i).toNat)
  case atStart => exact ⟨0, 0, Nat.zero_le _, rfl, rfl, by omega, rfl, 0, rfl⟩
  case round =>
    obtain ⟨k, m, hk, rfl, rfl, hm, HM, HW⟩ := hrel
    by_cases hlt : k < s.size
    · obtain ⟨d, hd⟩ : ∃ d, d = ds.getD k 0 := ⟨_, rfl⟩
      have hc := (HR.out.2 k hlt).1
      have hd9 := (HR.out.2 k hlt).2
      rw [← hd] at hc hd9
      have HD : Hid (d = ds.getD k 0) := hd
      have HC : Hid ((s[k].toNat : Int) = dg d) := hc
      clear hd hc
      go_wp2
      go_quiet ((go_at_call 15; exact Calls.quiet_of_same (Nm.idx10 _ d _ HC hd9)))
      go_wp2
      go_roundw
      case rel => exact ⟨k + 1, min (m * 10 + d) 4294967296, by omega, by go_num, by go_num, by omega, Nm.step HM HD (by have := HR.out.1; omega), Nm.drawn HW nq⟩
      case measure => simp [intOf]; omega
    · go_wp2
      go_ret2
      exact ⟨Nm.ret2 (Nm.last HM HR.out.1 hlt), HW.out⟩

set_option maxHeartbeats 400000 in
theorem Nm.hex (s t : ByteArray) (ds : List Nat) (w : World) (hne : s.toList.isEmpty = false) (HP : Hid (s.data.toList = 48 :: 120 :: t.data.toList)) (hbig : t.size ≤ 9223372036854775807)
    (HR : Hid (Nm.Reads 16 t ds)) :
    Calls Try.prog 11 #[.string s] w fun e w' => e = .returned (.tuple #[.int .u64 (acc 16 ds), .bool true]) ∧ ∃ q, w' = w.drewN q := by
  go_enter Try.func11, Try.ntmps11
  go_wp2_with (go_at_call 14; refine (Nm.cut_yes _ t _ HP.out).mono ?_; rintro e w1 ⟨rfl, hw1⟩; obtain rfl := hw1.symm)
  go_loopw [2, 7] (fun n i wr => ∃ k m : Nat, k ≤ t.size ∧ i = .int .i64 k ∧ n = .int .u64 m ∧ m ≤ 4294967296 ∧ Hid (m = acc 16 (ds.take k)) ∧ Hid (∃ q, wr = w.drewN q))
    (fun _ i _ => t.size - (intOf i).toNat)
  case atStart => exact ⟨0, 0, Nat.zero_le _, rfl, rfl, by omega, rfl, 0, rfl⟩
  case round =>
    obtain ⟨k, m, hk, rfl, rfl, hm, HM, HW⟩ := hrel
    by_cases hlt : k < t.size
    · obtain ⟨d, hd⟩ : ∃ d, d = ds.getD k 0 := ⟨_, rfl⟩
      have hc := (HR.out.2 k hlt).1
      have hd9 := (HR.out.2 k hlt).2
      rw [← hd] at hc hd9
      have HD : Hid (d = ds.getD k 0) := hd
      have HC : Hid ((t[k].toNat : Int) = dg d) := hc
      clear hd hc
      go_wp2
      go_quiet ((go_at_call 15; exact Calls.quiet_of_same (Nm.idx16 _ d _ HC hd9)))
      go_wp2
      go_roundw
      case rel => exact ⟨k + 1, min (m * 16 + d) 4294967296, by omega, by go_num, by go_num, by omega, Nm.step HM HD (by have := HR.out.1; omega), Nm.drawn HW nq⟩
      case measure => simp [intOf]; omega
    · go_wp2
      go_ret2
      exact ⟨Nm.ret2 (Nm.last HM HR.out.1 hlt), HW.out⟩

set_option maxHeartbeats 400000 in
theorem Nm.oct (s t : ByteArray) (ds : List Nat) (w : World) (hne : s.toList.isEmpty = false) (hp : Lib.hasPrefix s.data.toList [48, 120] = false) (h1 : 1 < s.size) (h2 : ((s[0].toNat : Int) == 48) = true)
    (HT : Hid (s.extract 1 s.size = t)) (hbig : t.size ≤ 9223372036854775807) (HR : Hid (Nm.Reads 8 t ds)) :
    Calls Try.prog 11 #[.string s] w fun e w' => e = .returned (.tuple #[.int .u64 (acc 8 ds), .bool true]) ∧ ∃ q, w' = w.drewN q := by
  go_enter Try.func11, Try.ntmps11
  go_wp2_with (go_at_call 14; refine (Nm.cut_no _ _ hp).mono ?_; rintro e w1 ⟨rfl, hw1⟩; obtain rfl := hw1.symm)
  go_quiet (fail)
  rw [HT.out]
  go_wp2
  go_loopw [2, 7] (fun n i wr => ∃ k m : Nat, k ≤ t.size ∧ i = .int .i64 k ∧ n = .int .u64 m ∧ m ≤ 4294967296 ∧ Hid (m = acc 8 (ds.take k)) ∧ Hid (∃ q, wr = w.drewN q))
    (fun _ i _ => t.size - (intOf i).toNat)
  case atStart => exact ⟨0, 0, Nat.zero_le _, rfl, rfl, by omega, rfl, nq, rfl⟩
  case round =>
    obtain ⟨k, m, hk, rfl, rfl, hm, HM, HW⟩ := hrel
    by_cases hlt : k < t.size
    · obtain ⟨d, hd⟩ : ∃ d, d = ds.getD k 0 := ⟨_, rfl⟩
      have hc := (HR.out.2 k hlt).1
      have hd9 := (HR.out.2 k hlt).2
      rw [← hd] at hc hd9
      have HD : Hid (d = ds.getD k 0) := hd
      have HC : Hid ((t[k].toNat : Int) = dg d) := hc
      clear hd hc
      go_wp2
      go_quiet ((go_at_call 15; exact Calls.quiet_of_same (Nm.idx8 _ d _ HC hd9)))
      go_wp2
      go_roundw
      case rel => exact ⟨k + 1, min (m * 8 + d) 4294967296, by omega, by go_num, by go_num, by omega, Nm.step HM HD (by have := HR.out.1; omega), Nm.drawn HW nq⟩
      case measure => simp [intOf]; omega
    · go_wp2
      go_ret2
      exact ⟨Nm.ret2 (Nm.last HM HR.out.1 hlt), HW.out⟩

end Go.Proofs.Qxb6600197a
