import Derived.Test.Qxb6605634aCut
namespace Go.Proofs.Qxb6605634a
open Go.RowKit Go.Proofs.Qxb6605634a.Pl

/-- some number comes back -/
def Mk.Num (w : World) (e : Ending) (w' : World) : Prop := ∃ x : Int, e = .returned (.int .u64 x) ∧ w' = w

set_option maxHeartbeats 400000 in
theorem Mk.value (s : ByteArray) (w : World) (hs : s.size ≤ 16777216) : Calls Try.prog 66 #[.string s] w fun e w' => Mk.Num w e w' := by
  by_cases h : (19 : Int) < s.size
  · go_enter Try.func66, Try.ntmps66
    go_wp2
    go_ret
    exact ⟨_, rfl, rfl⟩
  · go_enter Try.func66, Try.ntmps66
    go_wp2
    go_loop [3, 4] (fun t i => ∃ (k : Nat) (x : Int), k ≤ s.size ∧ i = .int .i64 k ∧ t = .int .u64 x) (fun _ i => s.size - (intOf i).toNat)
    case atStart => exact ⟨0, 0, Nat.zero_le _, rfl, rfl⟩
    case round =>
      obtain ⟨k, x, hk, rfl, rfl⟩ := hrel
      by_cases hlt : k < s.size
      · go_wp2
        go_round
        case rel => exact ⟨k + 1, _, by omega, by go_num, rfl⟩
        case measure => simp [intOf]; omega
      · go_wp2
        go_ret
        exact ⟨x, rfl, rfl⟩

theorem Mk.i0 (x y z : ByteArray) : ∀ w, (Instr.index 23 (.agg #[.string x, .string y, .string z]) (.int .i64 0)).run Try.prog w = .ok (.string x) w := fun _ => by kernel_rfl
theorem Mk.i1 (x y z : ByteArray) : ∀ w, (Instr.index 23 (.agg #[.string x, .string y, .string z]) (.int .i64 1)).run Try.prog w = .ok (.string y) w := fun _ => by kernel_rfl
theorem Mk.i2 (x y z : ByteArray) : ∀ w, (Instr.index 23 (.agg #[.string x, .string y, .string z]) (.int .i64 2)).run Try.prog w = .ok (.string z) w := fun _ => by kernel_rfl

/-- a version as one value -/
abbrev Ver (t : ByteArray) (a b c : Int) (p : ByteArray) : Value := .agg #[.string t, .int .u64 a, .int .u64 b, .int .u64 c, .string p]

/-- a version of this text comes back -/
def Mk.Post (w : World) (t p : ByteArray) (e : Ending) (w' : World) : Prop := ∃ a b c : Int, e = .returned (Ver t a b c p) ∧ Below w.heap.size w w'

theorem Mk.below (w : World) (a b c : Obj) : Below w.heap.size w (((w.alloc a).alloc b).alloc c) :=
  (((Below.refl _ _).alloc (Nat.le_refl _) _).alloc (by simp) _).alloc (by simp; omega) _

set_option maxRecDepth 100000 in
set_option maxHeartbeats 1000000 in
theorem Mk.bare (x y z p : ByteArray) (w : World) (hx : x.size ≤ 2097152) (hy : y.size ≤ 2097152) (hz : z.size ≤ 2097152) (hp : p.toList.isEmpty = true) :
    Calls Try.prog 54 #[Arr x y z, .string p] w fun e w' => Mk.Post w (x ++ ⟨#[46]⟩ ++ y ++ ⟨#[46]⟩ ++ z) p e w' := by
  have i0 := Mk.i0 x y z
  have i1 := Mk.i1 x y z
  have i2 := Mk.i2 x y z
  go_enter Try.func54, Try.ntmps54
  go_wp2
  generalize hT : x ++ ⟨#[46]⟩ ++ y ++ ⟨#[46]⟩ ++ z = T
  have HT : Hid (x ++ ⟨#[46]⟩ ++ y ++ ⟨#[46]⟩ ++ z = T) := hT
  clear hT
  go_loopw [26] (fun i wr => ∃ (k : Nat) (c0 c1 c2 : Int), k ≤ 3 ∧ i = .int .i64 k ∧ wr = ((w.alloc (.cells #[.string x, .string y, .string z] 23)).alloc (.cells #[.string ⟨#[]⟩, .int .u64 0, .int .u64 0, .int .u64 0, .string ⟨#[]⟩] 43)).alloc (.cells #[.int .u64 c0, .int .u64 c1, .int .u64 c2] 41)) (fun i _ => 3 - (intOf i).toNat)
  case atStart => exact ⟨0, 0, 0, 0, by omega, rfl, rfl⟩
  case round =>
    obtain ⟨k, c0, c1, c2, hk, rfl, rfl⟩ := hrel
    match k, hk with
    | 0, _ =>
      go_wp2_with (go_at_call 66; refine (Mk.value _ _ (by omega)).mono ?_; rintro e w1 ⟨v, rfl, rfl⟩)
      go_roundw
      case rel => exact ⟨1, v, c1, c2, by omega, rfl, rfl⟩
      case measure => simp [intOf]
    | 1, _ =>
      go_wp2_with (go_at_call 66; refine (Mk.value _ _ (by omega)).mono ?_; rintro e w1 ⟨v, rfl, rfl⟩)
      go_roundw
      case rel => exact ⟨2, c0, v, c2, by omega, rfl, rfl⟩
      case measure => simp [intOf]
    | 2, _ =>
      go_wp2_with (go_at_call 66; refine (Mk.value _ _ (by omega)).mono ?_; rintro e w1 ⟨v, rfl, rfl⟩)
      go_roundw
      case rel => exact ⟨3, c0, c1, v, by omega, rfl, rfl⟩
      case measure => simp [intOf]
    | 3, _ =>
      go_wp2
      refine bodyPost_ret (v := Ver T c0 c1 c2 p) (by simp [results, Try.results54, go_sem]) rfl ⟨c0, c1, c2, by rw [HT.out], Mk.below _ _ _ _⟩

set_option maxRecDepth 100000 in
set_option maxHeartbeats 1000000 in
theorem Mk.dashed (x y z p : ByteArray) (w : World) (hx : x.size ≤ 2097152) (hy : y.size ≤ 2097152) (hz : z.size ≤ 2097152) (hq : p.size ≤ 2097152) (hp : p.toList.isEmpty = false) :
    Calls Try.prog 54 #[Arr x y z, .string p] w fun e w' => Mk.Post w ((x ++ ⟨#[46]⟩ ++ y ++ ⟨#[46]⟩ ++ z) ++ (⟨#[45]⟩ ++ p)) p e w' := by
  have i0 := Mk.i0 x y z
  have i1 := Mk.i1 x y z
  have i2 := Mk.i2 x y z
  go_enter Try.func54, Try.ntmps54
  go_wp2
  generalize hT : (x ++ ⟨#[46]⟩ ++ y ++ ⟨#[46]⟩ ++ z) ++ (⟨#[45]⟩ ++ p) = T
  have HT : Hid ((x ++ ⟨#[46]⟩ ++ y ++ ⟨#[46]⟩ ++ z) ++ (⟨#[45]⟩ ++ p) = T) := hT
  clear hT
  go_loopw [26] (fun i wr => ∃ (k : Nat) (c0 c1 c2 : Int), k ≤ 3 ∧ i = .int .i64 k ∧ wr = ((w.alloc (.cells #[.string x, .string y, .string z] 23)).alloc (.cells #[.string ⟨#[]⟩, .int .u64 0, .int .u64 0, .int .u64 0, .string ⟨#[]⟩] 43)).alloc (.cells #[.int .u64 c0, .int .u64 c1, .int .u64 c2] 41)) (fun i _ => 3 - (intOf i).toNat)
  case atStart => exact ⟨0, 0, 0, 0, by omega, rfl, rfl⟩
  case round =>
    obtain ⟨k, c0, c1, c2, hk, rfl, rfl⟩ := hrel
    match k, hk with
    | 0, _ =>
      go_wp2_with (go_at_call 66; refine (Mk.value _ _ (by omega)).mono ?_; rintro e w1 ⟨v, rfl, rfl⟩)
      go_roundw
      case rel => exact ⟨1, v, c1, c2, by omega, rfl, rfl⟩
      case measure => simp [intOf]
    | 1, _ =>
      go_wp2_with (go_at_call 66; refine (Mk.value _ _ (by omega)).mono ?_; rintro e w1 ⟨v, rfl, rfl⟩)
      go_roundw
      case rel => exact ⟨2, c0, v, c2, by omega, rfl, rfl⟩
      case measure => simp [intOf]
    | 2, _ =>
      go_wp2_with (go_at_call 66; refine (Mk.value _ _ (by omega)).mono ?_; rintro e w1 ⟨v, rfl, rfl⟩)
      go_roundw
      case rel => exact ⟨3, c0, c1, v, by omega, rfl, rfl⟩
      case measure => simp [intOf]
    | 3, _ =>
      go_wp2
      refine bodyPost_ret (v := Ver T c0 c1 c2 p) (by simp [results, Try.results54, go_sem]) rfl ⟨c0, c1, c2, by rw [HT.out], Mk.below _ _ _ _⟩

theorem Mk.below2 {w w1 : World} {o p : Obj} (h : Below ((w.alloc o).alloc p).heap.size ((w.alloc o).alloc p) w1) : Hid (Below w.heap.size w w1) :=
  (((Below.refl _ _).alloc (Nat.le_refl _) _).alloc (by simp) _).trans (h.mono (by simp; omega))

theorem Mk.make (x y z p : ByteArray) (w : World) (hx : x.size ≤ 2097152) (hy : y.size ≤ 2097152) (hz : z.size ≤ 2097152) (hq : p.size ≤ 2097152) :
    Calls Try.prog 54 #[Arr x y z, .string p] w fun e w' => Mk.Post w (full x y z p) p e w' := by
  unfold full
  cases hp : p.toList.isEmpty
  · exact Mk.dashed x y z p w hx hy hz hq hp
  · exact Mk.bare x y z p w hx hy hz hp

set_option maxHeartbeats 400000 in
theorem Mk.zz (x y z p : ByteArray) (w : World) (hx : x.size ≤ 2097152) (hy : y.size ≤ 2097152) (hz : z.size ≤ 2097152) (hq : p.size ≤ 2097152) :
    Calls Try.prog 19 #[Arr x y z, .string p] w fun e w' => Mk.Post w (full x y z p) p e w' := by
  go_enter Try.func19, Try.ntmps19
  go_wp2_with fail
  refine (Mk.make x y z p _ hx hy hz hq).mono ?_
  rintro e w1 ⟨a, b, c, rfl, hB⟩
  obtain ⟨F, hF⟩ : ∃ F, F = full x y z p := ⟨_, rfl⟩
  rw [← hF]
  have HF : Hid (F = full x y z p) := hF
  have q0 := hB.cell (p := ⟨w.heap.size + 1, 0, none⟩) (by simp)
  have q1 := hB.cell (p := ⟨w.heap.size + 1, 1, none⟩) (by simp)
  have q2 := hB.cell (p := ⟨w.heap.size + 1, 2, none⟩) (by simp)
  have q3 := hB.cell (p := ⟨w.heap.size + 1, 3, none⟩) (by simp)
  have q4 := hB.cell (p := ⟨w.heap.size + 1, 4, none⟩) (by simp)
  have f0 := hB.frozen (p := ⟨w.heap.size + 1, 0, none⟩) (by simp)
  have f1 := hB.frozen (p := ⟨w.heap.size + 1, 1, none⟩) (by simp)
  have f2 := hB.frozen (p := ⟨w.heap.size + 1, 2, none⟩) (by simp)
  have f3 := hB.frozen (p := ⟨w.heap.size + 1, 3, none⟩) (by simp)
  have f4 := hB.frozen (p := ⟨w.heap.size + 1, 4, none⟩) (by simp)
  have HB : Hid (Below w.heap.size w w1) := Mk.below2 hB
  simp at q0 q1 q2 q3 q4 f0 f1 f2 f3 f4
  clear hF hB
  go_wp2
  refine bodyPost_ret (v := Ver F a b c p) (by simp [results, Try.results19, go_sem, q0, q1, q2, q3, q4]) rfl ⟨a, b, c, by rw [HF.out], ?_⟩
  exact ((((HB.out.setCell (by simp) _).setCell (by simp) _).setCell (by simp) _).setCell (by simp) _).setCell (by simp) _

end Go.Proofs.Qxb6605634a
