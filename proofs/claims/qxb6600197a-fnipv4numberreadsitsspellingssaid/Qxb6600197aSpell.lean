import Derived.Test.Qxb6600197aRows
import Derived.Test.Qxb6600197aPlain
import Derived.WalkKit
import Derived.WalkLawsBesides
import Derived.Laws.BytesArg
namespace Go.Proofs.Qxb6600197a
open Go.RowKit Go.Proofs.Qxb6600197a.Pl

theorem Sp.ret_int {k : IntKind} {a b : Int} (h : a = b) : Ending.returned (.int k a) = .returned (.int k b) := by rw [h]

theorem Sp.byte_any (d : Int) (w : World) (h0 : 0 ≤ d) (h1 : d < 16) :
    Calls Try.prog 13 #[.int .u64 d] w fun e w' => e = .returned (.int .u8 (dgI d)) ∧ w' = w := by
  by_cases h2 : d < 10
  · go_enter Try.func13, Try.ntmps13
    go_wp2
    go_ret
    exact ⟨Sp.ret_int (by unfold dgI; rw [if_pos h2]), rfl⟩
  · go_enter Try.func13, Try.ntmps13
    go_wp2
    go_ret
    exact ⟨Sp.ret_int (by unfold dgI; rw [if_neg (by omega)]; omega), rfl⟩

/-- the cells from 64 - ds.length on hold the digits -/
def Sp.Tail (cs : Array Value) (k : Nat) (ds : List Nat) : Prop :=
  cs.size = 64 ∧ ∀ j, j < ds.length → cs[k + j]? = some (.int .u8 (dg (ds.getD j 0)))

theorem Sp.tail_step {cs : Array Value} {x b k : Nat} {ds : List Nat} (h : Sp.Tail cs k ds) (hk1 : 1 ≤ k) (hk2 : k ≤ 64) :
    Sp.Tail (cs.setIfInBounds (k - 1) (Value.int IntKind.u8 (dgI ((x : Int) % (b : Int))))) (k - 1) (x % b :: ds) := by
  obtain ⟨h1, h2⟩ := h
  refine ⟨by simpa using h1, fun j hj => ?_⟩
  rw [Array.getElem?_setIfInBounds]
  cases j with
  | zero => simp [dg, h1]; omega
  | succ j =>
    rw [if_neg (by omega)]
    have := h2 j (by simpa using hj)
    rw [show k - 1 + (j + 1) = k + j by omega, this]
    simp

theorem Sp.slice_at (B k : Nat) (hk : k < 64) : ∀ W, (Instr.sliceAt 31 (.pointer (some ⟨B, 0, none⟩)) (some (.int .i64 (k : Int))) none none).run Try.prog W =
    .ok (.slice (some ⟨B, k, none⟩) (64 - k) (64 - k)) W := by
  intro W
  have e1 : Try.prog.arrayLen 31 = 64 := by simp [Program.arrayLen, Try.underlying31]
  have e2 : Try.prog.elem 31 = 5 := by simp [Program.elem, Try.underlying31]
  rw [run_sliceAt_array_l (P := Try.prog) W 31 ⟨B, 0, none⟩ (by rw [e1, e2]; exact Try.underlying31) .i64 k (by omega) (by rw [e1]; omega)]
  rw [e1, e2]
  have e3 : ∀ w, (Go.sizeOf 5).run Try.prog w = .ok 1 w := Try.sizeOf5
  have e4 : ¬ 64 = k := by omega
  simp [e3, slicedAt, Addr.add, e4]
  exact fun h => h.symm

theorem Sp.tail_cells {w : World} {cs : Array Value} {k : Nat} {ds : List Nat} (h : Sp.Tail cs k ds) (hl : (ds.map dg).length = 64 - k) :
    ∀ i, i < 64 - k → (w.alloc (.cells cs 31)).cell? ⟨w.heap.size, k + i, none⟩ = some (.int .u8 ((ds.map dg).getD i 0)) := by
  intro i hi
  have hi2 : i < ds.length := by simp at hl; omega
  have := h.2 i hi2
  simp [this, List.getD, List.getElem?_map, List.getElem?_eq_getElem hi2]

set_option maxHeartbeats 400000 in
theorem Sp.spell (v b : Nat) (w : World) (hv : 0 < v) (hv2 : (v : Int) ≤ 18446744073709551615) (hb : 8 ≤ b) (hb2 : b ≤ 16) :
    Calls Try.prog 9 #[.int .u64 v, .int .u64 b] w fun e w' => ∃ ds : List Nat, val b ds = v ∧ (∀ d ∈ ds, d < b) ∧ ds ≠ [] ∧ (2 ≤ ds.length → ds.head? ≠ some 0) ∧ ds.length ≤ 64 ∧ e = .returned (.string (strOfNums (ds.map dg))) ∧ ∃ cs, w' = w.alloc (.cells cs 31) := by
  have h0 : ((v : Int) == 0) = false := by simp; omega
  go_enter Try.func9, Try.ntmps9
  go_wp2
  go_loopw [0, 6] (fun a i wr => ∃ (x k : Nat) (ds : List Nat) (cs : Array Value), a = .int .u64 x ∧ i = .int .i64 k ∧ wr = w.alloc (.cells cs 31) ∧ Hid (Inv b v x k ds) ∧ Hid (Sp.Tail cs k ds))
    (fun a _ _ => (intOf a).toNat)
  case atStart => exact ⟨v, 64, [], _, rfl, rfl, rfl, inv_start b v hv, ⟨rfl, by simp⟩⟩
  case round =>
    obtain ⟨x, k, ds, cs, rfl, rfl, rfl, HI, HT⟩ := hrel
    by_cases hx : (0 : Int) < x
    · have hk := inv_bound HI hb (by omega) (by omega)
      obtain ⟨hk1, hk2⟩ := hk
      have hm0 : 0 ≤ (x : Int) % (b : Int) := Int.emod_nonneg _ (by omega)
      have hm1 : (x : Int) % (b : Int) < 16 := by have := Int.emod_lt_of_pos (x : Int) (show (0 : Int) < b by omega); omega
      have hq0 : 0 ≤ (x : Int) / (b : Int) := Int.ediv_nonneg (by omega) (by omega)
      have hq1 : (x : Int) / (b : Int) ≤ 18446744073709551615 := by
        have h1 := inv_le HI hb
        have h2 : (x : Int) / (b : Int) ≤ (x : Int) := Int.ediv_le_self _ (by omega)
        omega
      obtain ⟨old, hold⟩ : ∃ old, cs[k - 1]? = some old := ⟨_, Array.getElem?_eq_getElem (by have := HT.out.1; omega)⟩
      go_wp2_with (go_at_call 13; refine (Sp.byte_any _ _ hm0 hm1).mono ?_; rintro e w' ⟨rfl, rfl⟩)
      go_roundw
      case rel => exact ⟨x / b, k - 1, x % b :: ds, _, by simp, by rw [Int.ofNat_sub hk1]; rfl, rfl, inv_step HI hb (by omega) hk1, Sp.tail_step HT hk1 hk2⟩
      case measure =>
        have h1 := Nat.div_lt_self (n := x) (k := b) (by omega) (by omega)
        have h2 : ((x : Int) / (b : Int)).toNat = x / b := by rw [← Int.natCast_ediv, Int.toNat_natCast]
        simp [intOf]; omega
    · have hx0 : x = 0 := by omega
      have h6 : k < 64 := by
        have h1 := HI.out.2.2.1
        have h2 := List.length_pos_iff.2 (HI.out.2.2.2 hx0).1
        omega
      have hl : (ds.map dg).length = 64 - k := by have h1 := HI.out.2.2.1; simp; omega
      have hsl := Sp.slice_at w.heap.size k h6
      have hcv := run_convert_bytes_arg (P := Try.prog) (w.alloc (.cells cs 31)) 29 5 Try.underlying29 Try.underlying5 w.heap.size k (64 - k) (64 - k) (ds.map dg) hl (Sp.tail_cells HT hl) 9 Try.underlying9
      have HX : Hid (x = 0) := hx0
      clear hx0 hl
      go_wp2
      go_ret
      refine ⟨ds, ?_, HI.out.2.1, (HI.out.2.2.2 HX.out).1, (HI.out.2.2.2 HX.out).2, (by have h1 := HI.out.2.2.1; omega), rfl, cs, rfl⟩
      have h1 := HI.out.1
      rw [HX.out] at h1
      omega

set_option maxHeartbeats 400000 in
theorem Sp.spell_zero (b : Nat) (w : World) (hb : 8 ≤ b) :
    Calls Try.prog 9 #[.int .u64 0, .int .u64 b] w fun e w' => ∃ ds : List Nat, val b ds = 0 ∧ (∀ d ∈ ds, d < b) ∧ ds ≠ [] ∧ (2 ≤ ds.length → ds.head? ≠ some 0) ∧ ds.length ≤ 64 ∧ e = .returned (.string (strOfNums (ds.map dg))) ∧ ∃ cs, w' = w.alloc (.cells cs 31) := by
  go_enter Try.func9, Try.ntmps9
  go_wp2
  go_loopw [0, 6] (fun a i wr => ∃ (x k : Nat) (ds : List Nat) (cs : Array Value), a = .int .u64 x ∧ i = .int .i64 k ∧ wr = w.alloc (.cells cs 31) ∧ Hid (Inv b 0 x k ds) ∧ Hid (Sp.Tail cs k ds))
    (fun a _ _ => (intOf a).toNat)
  case atStart => exact ⟨0, 63, [0], _, rfl, rfl, rfl, inv_zero b hb, ⟨rfl, fun j hj => by simp at hj; subst hj; rfl⟩⟩
  case round =>
    obtain ⟨x, k, ds, cs, rfl, rfl, rfl, HI, HT⟩ := hrel
    have hx0 : x = 0 := by have := inv_le HI hb; omega
    have hx : ¬ (0 : Int) < x := by omega
    have h6 : k < 64 := by
      have h1 := HI.out.2.2.1
      have h2 := List.length_pos_iff.2 (HI.out.2.2.2 hx0).1
      omega
    have hl : (ds.map dg).length = 64 - k := by have h1 := HI.out.2.2.1; simp; omega
    have hsl := Sp.slice_at w.heap.size k h6
    have hcv := run_convert_bytes_arg (P := Try.prog) (w.alloc (.cells cs 31)) 29 5 Try.underlying29 Try.underlying5 w.heap.size k (64 - k) (64 - k) (ds.map dg) hl (Sp.tail_cells HT hl) 9 Try.underlying9
    have HX : Hid (x = 0) := hx0
    clear hx0 hl
    go_wp2
    go_ret
    refine ⟨ds, ?_, HI.out.2.1, (HI.out.2.2.2 HX.out).1, (HI.out.2.2.2 HX.out).2, (by have h1 := HI.out.2.2.1; omega), rfl, cs, rfl⟩
    have h1 := HI.out.1
    rw [HX.out] at h1
    omega


theorem Sp.spell_any (v b : Nat) (w : World) (hv2 : (v : Int) ≤ 18446744073709551615) (hb : 8 ≤ b) (hb2 : b ≤ 16) :
    Calls Try.prog 9 #[.int .u64 v, .int .u64 b] w fun e w' => ∃ ds : List Nat, val b ds = v ∧ (∀ d ∈ ds, d < b) ∧ ds ≠ [] ∧ (2 ≤ ds.length → ds.head? ≠ some 0) ∧ ds.length ≤ 64 ∧ e = .returned (.string (strOfNums (ds.map dg))) ∧ ∃ cs, w' = w.alloc (.cells cs 31) := by
  by_cases h : 0 < v
  · exact Sp.spell v b w h hv2 hb hb2
  · obtain rfl : v = 0 := by omega
    exact Sp.spell_zero b w hb

end Go.Proofs.Qxb6600197a
