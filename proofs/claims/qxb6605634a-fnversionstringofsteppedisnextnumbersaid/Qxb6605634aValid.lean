import Derived.Test.Qxb6605634aRows
import Derived.Test.Qxb6605634aPlain
import Derived.Test.Qxb6605634aShelf
import Derived.WalkKit
import Derived.WalkLawsBesides
import Derived.WalkSpells
import Derived.Deep.QuietTactic
import Derived.BigQuiet
import Derived.Lib.Strings
namespace Go.Proofs.Qxb6605634a
open Go.RowKit Go.Proofs.Qxb6605634a.Pl

/-- a Bool comes back; where it is true, Q holds; the world is as it was -/
def RetB (w : World) (Q : Prop) (e : Ending) (w' : World) : Prop := ∃ r : Bool, e = .returned (.bool r) ∧ (r = true → Q) ∧ w' = w

def digB (c : Int) : Bool := decide (48 ≤ c ∧ c ≤ 57)

theorem Vd.isDigit (c : Int) (w : World) : Calls Try.prog 74 #[.int .u8 c] w fun e w' => e = .returned (.bool (digB c)) ∧ w' = w := by
  have e1 : ∀ b, decide (48 ≤ c ∧ c ≤ 57) = b → Ending.returned (.bool b) = .returned (.bool (digB c)) := fun b h => by rw [← h]; rfl
  by_cases h1 : 48 ≤ c
  · by_cases h2 : c ≤ 57
    · go_enter Try.func74, Try.ntmps74
      go_wp2
      go_ret
      exact ⟨e1 true (by simp; omega), rfl⟩
    · go_enter Try.func74, Try.ntmps74
      go_wp2
      go_ret
      exact ⟨e1 false (by simp; omega), rfl⟩
  · go_enter Try.func74, Try.ntmps74
    go_wp2
    go_ret
    exact ⟨e1 false (by simp; omega), rfl⟩

theorem Vd.at (s : ByteArray) (k : Nat) (h : k < s.size) : (B s)[k]? = some s[k] := by
  have : k < s.data.toList.length := by simpa using h
  rw [List.getElem?_eq_getElem this]; rfl

theorem Vd.mem_take {s : ByteArray} {k : Nat} (h : k < s.size) : (B s).take (k + 1) = (B s).take k ++ [s[k]] := by
  rw [List.take_succ_eq_append_getElem (by rw [B_length]; exact h)]; rfl

theorem Vd.digits_step {s : ByteArray} {k : Nat} (h : k < s.size) (hd : Digits ((B s).take k)) (hb : digB s[k].toNat = true) : Digits ((B s).take (k + 1)) := by
  intro b hb2
  rw [Vd.mem_take h] at hb2
  rcases List.mem_append.1 hb2 with h1 | h1
  · exact hd b h1
  · simp at h1; subst h1
    unfold digB at hb
    simp at hb
    omega

set_option maxHeartbeats 400000 in
theorem Vd.allDigits (s : ByteArray) (w : World) (hs : s.size ≤ 1048576) : Calls Try.prog 62 #[.string s] w fun e w' => RetB w (Digits (B s)) e w' := by
  go_enter Try.func62, Try.ntmps62
  go_wp2
  go_loop [3] (fun i => ∃ k : Nat, k ≤ s.size ∧ i = .int .i64 k ∧ Hid (Digits ((B s).take k))) (fun i => s.size - (intOf i).toNat)
  case atStart => exact ⟨0, Nat.zero_le _, rfl, fun b hb => by simp at hb⟩
  case round =>
    obtain ⟨k, hk, rfl, HD⟩ := hrel
    by_cases hlt : k < s.size
    · cases hb : digB s[k].toNat
      · go_wp2_with (go_at_call 74; refine (Vd.isDigit _ _).mono ?_; rintro e w1 ⟨rfl, rfl⟩)
        go_ret
        exact ⟨false, rfl, (fun h => by cases h), rfl⟩
      · have HB : Hid (digB s[k].toNat = true) := hb
        go_wp2_with (go_at_call 74; refine (Vd.isDigit _ _).mono ?_; rintro e w1 ⟨rfl, rfl⟩)
        go_round
        case rel => exact ⟨k + 1, by omega, by go_num, Vd.digits_step hlt HD.out HB.out⟩
        case measure => simp [intOf]; omega
    · go_wp2
      go_ret
      exact ⟨true, rfl, (fun _ => by have := HD.out; rwa [List.take_of_length_le (by rw [B_length]; omega)] at this), rfl⟩

set_option maxHeartbeats 400000 in
theorem Vd.number (s : ByteArray) (w : World) (hs : s.size ≤ 1048576) : Calls Try.prog 50 #[.string s] w fun e w' => RetB w (Digits (B s)) e w' := by
  have no : ∀ P : Prop, (false = true → P) := fun P h => by cases h
  by_cases h0 : s.size = 0
  · have h0' : ((s.size : Int) == 0) = true := by simp [h0]
    clear h0
    go_enter Try.func50, Try.ntmps50
    go_wp2
    go_ret
    exact ⟨false, rfl, no _, rfl⟩
  · have h0' : ((s.size : Int) == 0) = false := by rw [beq_eq_false_iff_ne]; omega
    go_enter Try.func50, Try.ntmps50
    go_wp2_with fail
    refine (Vd.allDigits s w hs).mono ?_
    rintro e w1 ⟨r, rfl, hr, hw⟩
    obtain rfl := hw.symm
    cases r
    · go_wp2
      go_ret
      exact ⟨false, rfl, no _, rfl⟩
    · have HD : Hid (Digits (B s)) := hr rfl
      clear hr hw
      have h00 : 0 < s.size := by omega
      by_cases h1 : s.size = 1
      · have h1' : ((s.size : Int) == 1) = true := by simp [h1]
        clear h1
        go_wp2
        go_ret
        exact ⟨true, rfl, fun _ => HD.out, rfl⟩
      · have h1' : ((s.size : Int) == 1) = false := by rw [beq_eq_false_iff_ne]; omega
        clear h1
        go_wp2
        go_ret
        exact ⟨_, rfl, fun _ => HD.out, rfl⟩

theorem Vd.ascii_step {s : ByteArray} {k : Nat} (h : k < s.size) (hd : Ascii ((B s).take k)) (hb : s[k].toNat < 128) : Ascii ((B s).take (k + 1)) := by
  intro b hb2
  rw [Vd.mem_take h] at hb2
  rcases List.mem_append.1 hb2 with h1 | h1
  · exact hd b h1
  · simp at h1; subst h1; exact hb

theorem Vd.dig_lt {c : Nat} (h : digB c = true) : c < 128 := by
  unfold digB at h; simp at h; omega

set_option maxHeartbeats 1000000 in
theorem Vd.ident (s : ByteArray) (w : World) (hs : s.size ≤ 1048576) : Calls Try.prog 63 #[.string s] w fun e w' => RetB w (Ascii (B s)) e w' := by
  have no : ∀ P : Prop, (false = true → P) := fun P h => by cases h
  by_cases h0 : s.size = 0
  · have h0' : ((s.size : Int) == 0) = true := by simp [h0]
    clear h0
    go_enter Try.func63, Try.ntmps63
    go_wp2
    go_ret
    exact ⟨false, rfl, no _, rfl⟩
  · have h0' : ((s.size : Int) == 0) = false := by rw [beq_eq_false_iff_ne]; omega
    have h00 : 0 < s.size := by omega
    clear h0
    go_enter Try.func63, Try.ntmps63
    go_wp2
    go_loop [3, 4] (fun n i => ∃ (k : Nat) (nb : Bool), k ≤ s.size ∧ i = .int .i64 k ∧ n = .bool nb ∧ Hid (Ascii ((B s).take k))) (fun _ i => s.size - (intOf i).toNat)
    case atStart => exact ⟨0, true, Nat.zero_le _, rfl, rfl, fun b hb => by simp at hb⟩
    case round =>
      obtain ⟨k, nb, hk, rfl, rfl, HA⟩ := hrel
      by_cases hlt : k < s.size
      · cases hb : digB s[k].toNat
        · by_cases h1 : (97 : Int) ≤ s[k].toNat
          · by_cases h2 : (s[k].toNat : Int) ≤ 122
            · go_wp2_with (go_at_call 74; refine (Vd.isDigit _ _).mono ?_; rintro e w1 ⟨rfl, rfl⟩)
              go_round
              case rel => exact ⟨k + 1, false, by omega, by go_num, rfl, Vd.ascii_step hlt HA.out (by omega)⟩
              case measure => simp [intOf]; omega
            · have h45 : ((s[k].toNat : Int) == 45) = false := by rw [beq_eq_false_iff_ne]; omega
              have d2 : decide ((s[k].toNat : Int) ≤ 122) = false := by simpa using h2
              have d4 : decide ((s[k].toNat : Int) ≤ 90) = false := by simp; omega
              go_wp2_with (go_at_call 74; refine (Vd.isDigit _ _).mono ?_; rintro e w1 ⟨rfl, rfl⟩)
              go_ret
              exact ⟨false, rfl, no _, rfl⟩
          · by_cases h3 : (65 : Int) ≤ s[k].toNat
            · by_cases h4 : (s[k].toNat : Int) ≤ 90
              · go_wp2_with (go_at_call 74; refine (Vd.isDigit _ _).mono ?_; rintro e w1 ⟨rfl, rfl⟩)
                go_round
                case rel => exact ⟨k + 1, false, by omega, by go_num, rfl, Vd.ascii_step hlt HA.out (by omega)⟩
                case measure => simp [intOf]; omega
              · have h45 : ((s[k].toNat : Int) == 45) = false := by rw [beq_eq_false_iff_ne]; omega
                have d1 : decide ((97 : Int) ≤ s[k].toNat) = false := by simpa using h1
                have d4 : decide ((s[k].toNat : Int) ≤ 90) = false := by simpa using h4
                go_wp2_with (go_at_call 74; refine (Vd.isDigit _ _).mono ?_; rintro e w1 ⟨rfl, rfl⟩)
                go_ret
                exact ⟨false, rfl, no _, rfl⟩
            · by_cases h5 : (s[k].toNat : Int) = 45
              · have h45 : ((s[k].toNat : Int) == 45) = true := by rw [beq_iff_eq]; exact h5
                have d1 : decide ((97 : Int) ≤ s[k].toNat) = false := by simpa using h1
                have d3 : decide ((65 : Int) ≤ s[k].toNat) = false := by simpa using h3
                clear h5
                go_wp2_with (go_at_call 74; refine (Vd.isDigit _ _).mono ?_; rintro e w1 ⟨rfl, rfl⟩)
                go_round
                case rel => exact ⟨k + 1, false, by omega, by go_num, rfl, Vd.ascii_step hlt HA.out (by omega)⟩
                case measure => simp [intOf]; omega
              · have h45 : ((s[k].toNat : Int) == 45) = false := by rw [beq_eq_false_iff_ne]; exact h5
                have d1 : decide ((97 : Int) ≤ s[k].toNat) = false := by simpa using h1
                have d3 : decide ((65 : Int) ≤ s[k].toNat) = false := by simpa using h3
                clear h5
                go_wp2_with (go_at_call 74; refine (Vd.isDigit _ _).mono ?_; rintro e w1 ⟨rfl, rfl⟩)
                go_ret
                exact ⟨false, rfl, no _, rfl⟩
        · have HL : Hid (s[k].toNat < 128) := Vd.dig_lt hb
          go_wp2_with (go_at_call 74; refine (Vd.isDigit _ _).mono ?_; rintro e w1 ⟨rfl, rfl⟩)
          go_round
          case rel => exact ⟨k + 1, nb, by omega, by go_num, rfl, Vd.ascii_step hlt HA.out HL.out⟩
          case measure => simp [intOf]; omega
      · have HF : Hid (Ascii (B s)) := by have := HA.out; rwa [List.take_of_length_le (by rw [B_length]; omega)] at this
        cases nb
        · go_wp2
          go_ret
          exact ⟨_, rfl, fun _ => HF.out, rfl⟩
        · by_cases h1 : s.size = 1
          · have h1' : ((s.size : Int) == 1) = true := by simp [h1]
            clear h1
            go_wp2
            go_ret
            exact ⟨_, rfl, fun _ => HF.out, rfl⟩
          · have h1' : ((s.size : Int) == 1) = false := by rw [beq_eq_false_iff_ne]; omega
            clear h1
            go_wp2
            go_ret
            exact ⟨_, rfl, fun _ => HF.out, rfl⟩

theorem Vd.ascii_more {s : ByteArray} {a b : Nat} (h1 : Ascii ((B s).take a)) (hab : a ≤ b) (h2 : Ascii (B (s.extract a b))) : Ascii ((B s).take b) := by
  intro x hx
  have e : (B s).take b = (B s).take a ++ B (s.extract a b) := by
    have e2 : B (s.extract a b) = ((B s).drop a).take (b - a) := Lib.extract_data s a b
    rw [e2]
    conv => lhs; rw [show b = a + (b - a) by omega, List.take_add]
  rw [e] at hx
  rcases List.mem_append.1 hx with h | h
  · exact h1 x h
  · exact h2 x h

set_option maxHeartbeats 1000000 in
theorem Vd.pre (s : ByteArray) (w : World) (hs : s.size ≤ 1048576) : Calls Try.prog 51 #[.string s] w fun e w' => RetB w (Ascii (B s)) e w' := by
  have no : ∀ P : Prop, (false = true → P) := fun P h => by cases h
  by_cases h0 : s.size = 0
  · have h0' : s.toList.isEmpty = true := by
      rw [Lib.toList_data, List.isEmpty_iff]
      exact List.eq_nil_of_length_eq_zero (by rw [← Lib.size_eq]; exact h0)
    have HE : Hid (s.size = 0) := h0
    clear h0
    go_enter Try.func51, Try.ntmps51
    go_wp2
    go_ret
    exact ⟨true, rfl, (fun _ b hb => by have h := List.eq_nil_of_length_eq_zero ((B_length s).trans HE.out); rw [h] at hb; simp at hb), rfl⟩
  · have h0' : s.toList.isEmpty = false := by
      rw [Lib.toList_data, List.isEmpty_eq_false_iff]
      intro e
      rw [Lib.size_eq, e] at h0
      simp at h0
    clear h0
    go_enter Try.func51, Try.ntmps51
    go_wp2
    go_loop [3] (fun i => ∃ k : Nat, k ≤ s.size + 1 ∧ i = .int .i64 k ∧ Hid (Ascii ((B s).take k))) (fun i => s.size + 1 - (intOf i).toNat)
    case atStart => exact ⟨0, Nat.zero_le _, rfl, fun b hb => by simp at hb⟩
    case round =>
      obtain ⟨k, hk, rfl, HA⟩ := hrel
      by_cases hle : k ≤ s.size
      · go_wp2
        go_loop [4] (fun i => ∃ e : Nat, k ≤ e ∧ e ≤ s.size ∧ i = .int .i64 e) (fun i => s.size - (intOf i).toNat)
        case atStart => exact ⟨k, Nat.le_refl _, hle, rfl⟩
        case round =>
          obtain ⟨m, hm1, hm2, rfl⟩ := hrel
          by_cases hlt : m < s.size
          · by_cases hdot : s[m] = 46
            · have hb : ((s[m].toNat : Int) != 46) = false := by rw [hdot]; rfl
              have HDot : Hid (s[m] = 46) := hdot
              clear hdot
              go_wp2_with fail
              refine (Vd.ident _ w (by simp; omega)).mono ?_
              rintro e w1 ⟨r, rfl, hr, hw⟩
              obtain rfl := hw.symm
              clear hw
              cases r
              · go_wp2
                go_ret
                exact ⟨false, rfl, no _, rfl⟩
              · have HI : Hid (Ascii (B (s.extract k m))) := hr rfl
                clear hr
                go_wp2
                go_round
                case rel => exact ⟨m + 1, by omega, by go_num, Vd.ascii_step hlt (Vd.ascii_more HA.out hm1 HI.out) (by rw [HDot.out]; decide)⟩
                case measure => simp [intOf]; omega
            · have hb : ((s[m].toNat : Int) != 46) = true := by
                simp only [bne_iff_ne, ne_eq]
                intro e
                exact hdot (UInt8.toNat_inj.1 (by show s[m].toNat = 46; omega))
              clear hdot
              go_wp2
              go_round
              case rel => exact ⟨m + 1, by omega, by omega, by go_num⟩
              case measure => simp [intOf]; omega
          · go_wp2_with fail
            refine (Vd.ident _ w (by simp; omega)).mono ?_
            rintro e w1 ⟨r, rfl, hr, hw⟩
            obtain rfl := hw.symm
            clear hw
            cases r
            · go_wp2
              go_ret
              exact ⟨false, rfl, no _, rfl⟩
            · have HI : Hid (Ascii (B (s.extract k m))) := hr rfl
              clear hr
              go_wp2
              go_round
              case rel => exact ⟨m + 1, by omega, by go_num, by have h := Vd.ascii_more HA.out hm1 HI.out; rw [List.take_of_length_le (by rw [B_length]; omega)] at h; exact fun b hb => h b (List.mem_of_mem_take hb)⟩
              case measure => simp [intOf]; omega
      · go_wp2
        go_ret
        exact ⟨true, rfl, (fun _ => by have h := HA.out; rwa [List.take_of_length_le (by rw [B_length]; omega)] at h), rfl⟩

end Go.Proofs.Qxb6605634a
