import Derived.Test.Qxb6605634aInc
namespace Go.Proofs.Qxb6605634a
open Go.RowKit Go.Proofs.Qxb6605634a.Pl

theorem Zi.more {L l : List UInt8} {k : Nat} (h : Hid (l = L ++ List.replicate k 48)) : Hid (l ++ [48] = L ++ List.replicate (k + 1) 48) := by
  show _ = _
  rw [h.out, List.append_assoc, List.replicate_succ']

theorem Zi.end_ {s : ByteArray} {L l : List UInt8} {k t : Nat} (h : Hid (l = L ++ List.replicate k 48)) (hk : k = t) (hn : Nines (B s) t) (hL : L ++ List.replicate t 48 = inc (B s) t) : Ending.returned (.string (Str l)) = .returned (.string (incB s)) := by
  unfold incB
  rw [h.out, hk, hL, tn_of hn]

theorem Zi.nines_all {s : ByteArray} {t : Nat} (h : Hid (∀ j, j < t → (B s)[(B s).length - 1 - j]? = some 57)) (ht : t = s.size) : Nines (B s) t :=
  ⟨by rw [B_length]; omega, h.out, fun h => by rw [B_length] at h; omega⟩

theorem Zi.nines_stop {s : ByteArray} {t : Nat} (h : Hid (∀ j, j < t → (B s)[(B s).length - 1 - j]? = some 57)) (ht : t < s.size) (h9 : (B s)[s.size - 1 - t]? ≠ some 57) : Nines (B s) t :=
  ⟨by rw [B_length]; omega, h.out, fun _ => by rw [B_length]; exact h9⟩

theorem Zi.step {s : ByteArray} {t : Nat} (h : Hid (∀ j, j < t → (B s)[(B s).length - 1 - j]? = some 57)) (h9 : (B s)[s.size - 1 - t]? = some 57) : Hid (∀ j, j < t + 1 → (B s)[(B s).length - 1 - j]? = some 57) := by
  intro j hj
  by_cases e : j < t
  · exact h.out j e
  · obtain rfl : j = t := by omega
    rw [B_length]; exact h9

theorem Zi.take_inc {s : ByteArray} {t : Nat} {c : UInt8} (ht : t < s.size) (hc : c = (B s).getD (s.size - t - 1) 0) : B (s.extract 0 (s.size - t - 1)) ++ [c + 1] ++ List.replicate t 48 = inc (B s) t := by
  have e : B (s.extract 0 (s.size - t - 1)) = (B s).take (s.size - t - 1) := by
    have := Lib.extract_data s 0 (s.size - t - 1)
    rw [List.drop_zero, Nat.sub_zero] at this
    exact this
  unfold inc
  rw [if_neg (by rw [B_length]; omega), B_length, e, hc, List.append_assoc]
  rfl

set_option maxRecDepth 100000 in
set_option maxHeartbeats 1000000 in
theorem Zi.walk (s : ByteArray) (w : World) (hs : s.size ≤ 1048576) (hd : Hid (Digits (B s))) :
    Calls Try.prog 57 #[.string s] w fun e w' => e = .returned (.string (incB s)) ∧ Below w.heap.size w w' := by
  have hmk := Zi.make s.size hs
  go_enter Try.func57, Try.ntmps57
  go_wp2
  go_loop [3] (fun i => ∃ t : Nat, t ≤ s.size ∧ i = .int .i64 t ∧ Hid (∀ j, j < t → (B s)[(B s).length - 1 - j]? = some 57)) (fun i => s.size - (intOf i).toNat)
  case atStart => exact ⟨0, Nat.zero_le _, rfl, fun j hj => absurd hj (Nat.not_lt_zero _)⟩
  case round =>
    obtain ⟨t, ht, rfl, HT⟩ := hrel
    by_cases hlt : t < s.size
    · have hlt0 := hlt
      have hi1 : s.size - 1 - t < s.size := by omega
      have hi0 : (0 : Int) ≤ (s.size : Int) - 1 - t := by omega
      by_cases h9 : s[s.size - 1 - t] = 57
      · have hb : ((s[s.size - 1 - t].toNat : Int) == 57) = true := by rw [h9]; rfl
        have H9 : Hid ((B s)[s.size - 1 - t]? = some 57) := by show _ = _; rw [Vd.at s _ hi1, h9]
        clear h9
        go_wp2
        go_round
        case rel => exact ⟨t + 1, by omega, by go_num, Zi.step HT H9.out⟩
        case measure => simp [intOf]; omega
      · have hb : ((s[s.size - 1 - t].toNat : Int) == 57) = false := by
          rw [beq_eq_false_iff_ne]
          intro e
          exact h9 (UInt8.toNat_inj.1 (by show s[s.size - 1 - t].toNat = 57; omega))
        have HN : Hid (Nines (B s) t) := Zi.nines_stop HT hlt (by rw [Vd.at s _ hi1]; intro e; exact h9 (Option.some.inj e))
        have htb : ((t : Int) == (s.size : Int)) = false := by rw [beq_eq_false_iff_ne]; omega
        have hd2 := hd.out s[s.size - 1 - t] (List.mem_of_getElem? (Vd.at s _ hi1))
        have h57 : s[s.size - 1 - t].toNat < 57 := by
          rcases Nat.lt_or_ge s[s.size - 1 - t].toNat 57 with h | h
          · exact h
          · exact absurd (UInt8.toNat_inj.1 (by show s[s.size - 1 - t].toNat = 57; omega)) h9
        have hj1 : s.size - t - 1 < s.size := by omega
        obtain ⟨c, hc⟩ : ∃ c, c = s[s.size - t - 1] := ⟨_, rfl⟩
        have hcl : c.toNat < 57 := by
          rw [hc]
          have e : s[s.size - t - 1] = s[s.size - 1 - t] := by congr 1; omega
          rw [e]; exact h57
        have HCc : Hid (c = (B s).getD (s.size - t - 1) 0) := by
          show _ = _
          rw [hc]
          simp [List.getD, Vd.at s _ hj1]
        have hE : (s.extract 0 (s.size - t - 1)).size ≤ 1048576 := by simp; omega
        obtain ⟨E, hEE⟩ : ∃ E, E = s.extract 0 (s.size - t - 1) := ⟨_, rfl⟩
        have HC2 : Hid (c = s[s.size - t - 1]) := hc
        clear h9 hd2 h57 hc
        go_wp2_with (at_builtin; go_must (refine Rb.text rfl (.tmp 33) (.tmp 40) rfl w (w.alloc (.cells (madeCells #[.int .u8 0] (s.size + 1)) 5)) (.slice (some ⟨w.heap.size, 0, none⟩) 0 (s.size + 1)) [] (s.extract 0 (s.size - t - 1)) rfl rfl (Rb.made w s.size hs) (by simp) (by omega) ?_))
        intro v1 w1 HR1'
        rw [← hEE] at HR1' hE
        have HR1 : Hid (Rb w w1 v1 (B E)) := HR1'
        have HEE : Hid (E = s.extract 0 (s.size - t - 1)) := hEE
        have hEl : (B E).length ≤ 1048576 := by rw [B_length]; exact hE
        clear hEE HR1' hmk hb hi0
        have hk0 : (0 : Int) ≤ (s.size : Int) - t - 1 := by omega
        have hck : ((s[s.size - t - 1].toNat : Int)) + 1 = ((c + 1).toNat : Int) := by rw [digit_inc hcl, ← HC2.out]; omega
        have HCk : Hid ((s[s.size - t - 1].toNat : Int) + 1 = ((c + 1).toNat : Int)) := hck
        have hcb : (s[s.size - t - 1].toNat : Int) ≤ 56 := by have := HC2.out; rw [← this]; omega
        clear hck
        go_wp2_with (at_builtin; go_must (refine Rb.add rfl (.tmp 42) (.tmp 51) rfl w w1 v1 (B E) (c + 1) ((s[s.size - t - 1].toNat : Int) + 1) rfl rfl HCk HR1 (by omega) ?_))
        intro v2 w2 HR2'
        obtain ⟨L0, hL0⟩ : ∃ L0 : List UInt8, L0 = B E ++ [c + 1] := ⟨_, rfl⟩
        have HR2 : Hid (Rb w w2 v2 L0) := by rw [hL0]; exact HR2'
        have hL1 : L0.length ≤ 1048577 := by rw [hL0]; simp; omega
        have HL0 : Hid (L0 = B E ++ [c + 1]) := hL0
        clear hL0 HR2' hcb
        go_wp2
        go_loopw [4, 5] (fun v i wr => ∃ (k : Nat) (l : List UInt8), k ≤ t ∧ i = .int .i64 k ∧ l.length ≤ 1048577 + k ∧ Hid (Rb w wr v l) ∧ Hid (l = L0 ++ List.replicate k 48)) (fun _ i _ => t - (intOf i).toNat)
        case atStart => exact ⟨0, L0, Nat.zero_le _, rfl, by omega, HR2, by show _ = _; simp⟩
        case round =>
          obtain ⟨k, l, hk, rfl, hl, HR, HL⟩ := hrel
          by_cases hlt : k < t
          · go_wp2_with (at_builtin; go_must (refine Rb.add rfl (.tmp 58) (.tmp 59) rfl w wr u4 l 48 48 rfl rfl (by show (48 : Int) = _; rfl) HR (by omega) ?_))
            intro v2 w2 HR2
            go_wp2
            go_roundw
            case rel => exact ⟨k + 1, l ++ [48], by omega, by go_num, by simp; omega, HR2, Zi.more HL⟩
            case measure => simp [intOf]; omega
          · have hcv := HR.out.conv
            go_wp2
            go_ret
            exact ⟨Zi.end_ HL (by omega) HN.out (by rw [HL0.out, HEE.out]; exact Zi.take_inc hlt0 HCc.out), HR.out.n⟩
    · have HN : Hid (Nines (B s) t) := Zi.nines_all HT (by omega)
      have htb : ((t : Int) == (s.size : Int)) = true := by rw [beq_iff_eq]; omega
      have HTs : Hid (t = s.size) := by show _ = _; omega
      go_wp2_with (at_builtin; go_must (refine Rb.addAt rfl (.tmp 30) (.tmp 31) rfl w (w.alloc (.cells (madeCells #[.int .u8 0] (s.size + 1)) 5)) (.slice (some ⟨w.heap.size, 0, none⟩) 0 (s.size + 1)) [] 49 49 (w.heap.size + 1) rfl rfl (by simp) (by show (49 : Int) = _; rfl) (Rb.made w s.size hs) (by simp) ?_))
      intro v1 w1 HR1'
      obtain ⟨L0, hL0⟩ : ∃ L0 : List UInt8, L0 = [49] := ⟨_, rfl⟩
      have HR1 : Hid (Rb w w1 v1 L0) := by rw [hL0]; exact HR1'
      have hL1 : L0.length ≤ 1048577 := by rw [hL0]; simp
      have HL0 : Hid (L0 = [49]) := hL0
      clear hL0 HR1' hmk
      go_wp2
      go_loopw [4, 5] (fun v i wr => ∃ (k : Nat) (l : List UInt8), k ≤ t ∧ i = .int .i64 k ∧ l.length ≤ 1048577 + k ∧ Hid (Rb w wr v l) ∧ Hid (l = L0 ++ List.replicate k 48)) (fun _ i _ => t - (intOf i).toNat)
      case atStart => exact ⟨0, L0, Nat.zero_le _, rfl, by omega, HR1, by show _ = _; simp⟩
      case round =>
        obtain ⟨k, l, hk, rfl, hl, HR, HL⟩ := hrel
        by_cases hlt : k < t
        · go_wp2_with (at_builtin; go_must (refine Rb.add rfl (.tmp 58) (.tmp 59) rfl w wr u4 l 48 48 rfl rfl (by show (48 : Int) = _; rfl) HR (by omega) ?_))
          intro v2 w2 HR2
          go_wp2
          go_roundw
          case rel => exact ⟨k + 1, l ++ [48], by omega, by go_num, by simp; omega, HR2, Zi.more HL⟩
          case measure => simp [intOf]; omega
        · have hcv := HR.out.conv
          go_wp2
          go_ret
          exact ⟨Zi.end_ HL (by omega) HN.out (by rw [HL0.out, HTs.out]; unfold inc; rw [if_pos (B_length s).symm]; rfl), HR.out.n⟩

end Go.Proofs.Qxb6605634a
