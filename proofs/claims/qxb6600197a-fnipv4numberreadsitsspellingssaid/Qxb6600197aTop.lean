import Derived.Test.Qxb6600197aSpell
import Derived.Test.Qxb6600197aNum
namespace Go.Proofs.Qxb6600197a
open Go.RowKit Go.Proofs.Qxb6600197a.Pl

theorem Tp.dg_range (d : Nat) (h : d < 16) : 48 ≤ dg d ∧ dg d ≤ 102 := by
  unfold dg dgI; split <;> omega

theorem Tp.size (ds : List Nat) : (strOfNums (ds.map dg)).size = ds.length := by rw [strOfNums_size]; simp

theorem Tp.at (ds : List Nat) (k : Nat) (hk : k < ds.length) (h : ds.getD k 0 < 16) : (((strOfNums (ds.map dg)).data.toList.getD k 0).toNat : Int) = dg (ds.getD k 0) := by
  have hr := Tp.dg_range _ h
  rw [strOfNums_data]
  simp only [List.getD, List.getElem?_map, List.getElem?_eq_getElem hk, Option.map_some, Option.getD_some] at hr ⊢
  simp
  omega

theorem Tp.mem_lt {b : Nat} {ds : List Nat} (h : ∀ d ∈ ds, d < b) (k : Nat) (hk : k < ds.length) : ds.getD k 0 < b := by
  simp only [List.getD, List.getElem?_eq_getElem hk, Option.getD_some]
  exact h _ (List.getElem_mem _)

theorem Tp.getD_get (s : ByteArray) (k : Nat) (h : k < s.size) : s.data.toList.getD k 0 = s[k] := by
  have : k < s.data.toList.length := by simpa using h
  simp only [List.getD, List.getElem?_eq_getElem this, Option.getD_some]
  rfl

theorem Tp.reads (b : Nat) (ds : List Nat) (hb : b ≤ 16) (h : ∀ d ∈ ds, d < b) : Nm.Reads b (strOfNums (ds.map dg)) ds := by
  refine ⟨(Tp.size ds).symm, fun k hk => ?_⟩
  have hk' : k < ds.length := by rw [← Tp.size]; exact hk
  have hl := Tp.mem_lt h k hk'
  refine ⟨?_, hl⟩
  rw [← Tp.at ds k hk' (by omega), Tp.getD_get _ k hk]

set_option maxHeartbeats 400000 in
theorem Tp.zz (s : ByteArray) (n : Nat) (w : World) (h : Calls Try.prog 11 #[.string s] w fun e w' => e = .returned (.tuple #[.int .u64 n, .bool true]) ∧ ∃ q, w' = w.drewN q) :
    Calls Try.prog 7 #[.string s] w fun e w' => e = .returned (.tuple #[.int .u64 n, .bool true]) ∧ ∃ q, w' = w.drewN q := by
  have H : Hid (Calls Try.prog 11 #[.string s] w fun e w' => e = .returned (.tuple #[.int .u64 n, .bool true]) ∧ ∃ q, w' = w.drewN q) := h
  clear h
  go_enter Try.func7, Try.ntmps7
  go_wp2_with (go_at_call 11; refine H.out.mono ?_; rintro e w1 ⟨rfl, q, rfl⟩)
  go_ret2
  exact ⟨rfl, q, rfl⟩

/-- ds spells v in base b -/
def Tp.Good (b v : Nat) (ds : List Nat) : Prop := val b ds = v ∧ (∀ d ∈ ds, d < b) ∧ ds ≠ [] ∧ (2 ≤ ds.length → ds.head? ≠ some 0) ∧ ds.length ≤ 64

theorem Tp.spell (v b : Nat) (w : World) (hv : (v : Int) ≤ 18446744073709551615) (hb : 8 ≤ b) (hb2 : b ≤ 16) :
    Calls Try.prog 9 #[.int .u64 v, .int .u64 b] w fun e w' => ∃ ds : List Nat, Hid (Tp.Good b v ds) ∧ e = .returned (.string (strOfNums (ds.map dg))) ∧ ∃ cs, w' = w.alloc (.cells cs 31) :=
  (Sp.spell_any v b w hv hb hb2).mono fun _ _ ⟨ds, h1, h2, h3, h4, h5, he, hw⟩ => ⟨ds, ⟨h1, h2, h3, h4, h5⟩, he, hw⟩

theorem Tp.value {b v : Nat} {ds : List Nat} (hb : 1 ≤ b) (h : Tp.Good b v ds) : acc b ds = min v 4294967296 := by rw [acc_eq b hb, h.1]

theorem Tp.data (ds : List Nat) : (strOfNums (ds.map dg)).data.toList = ds.map fun d => UInt8.ofNat (dg d).toNat := by
  rw [strOfNums_data, List.map_map]; rfl

theorem Tp.byte_ne (d : Nat) (h : d < 10) : UInt8.ofNat (dg d).toNat ≠ 120 := by
  intro e
  have h1 := congrArg UInt8.toNat e
  have h2 := Tp.dg_range d (by omega)
  have h3 : dg d ≤ 57 := by unfold dg dgI; split <;> omega
  simp at h1
  omega

theorem Tp.no_prefix (x : UInt8) (ds : List Nat) (h : ∀ d ∈ ds, d < 10) : Lib.hasPrefix (x :: ds.map fun d => UInt8.ofNat (dg d).toNat) [48, 120] = false := by
  cases ds with
  | nil => simp [Lib.hasPrefix, List.isPrefixOf]
  | cons d ds =>
    have := Tp.byte_ne d (h d (by simp))
    simp [Lib.hasPrefix, List.isPrefixOf]
    intro _ e
    exact this e.symm

theorem Tp.not_empty (s : ByteArray) (h : 0 < s.size) : s.toList.isEmpty = false := by
  rw [Lib.toList_data, List.isEmpty_eq_false_iff]
  intro e
  rw [Lib.size_eq, e] at h
  simp at h

theorem Tp.ten (v : Nat) (ds : List Nat) (r : Int) (w : World) (h : Hid (Tp.Good 10 v ds)) (hr : Hid (r = ((min v 4294967296 : Nat) : Int))) :
    Calls Try.prog 7 #[.string (strOfNums (ds.map dg))] w fun e w' => e = .returned (.tuple #[.int .u64 r, .bool true]) ∧ ∃ q, w' = w.drewN q := by
  rw [hr.out, ← Tp.value (by omega) h.out]
  apply Tp.zz
  obtain ⟨h1, h2, h3, h4, h5⟩ := h.out
  have hR : Nm.Reads 10 (strOfNums (ds.map dg)) ds := Tp.reads 10 ds (by omega) h2
  have hs := Tp.size ds
  have hpos := List.length_pos_iff.2 h3
  have hne : (strOfNums (ds.map dg)).toList.isEmpty = false := Tp.not_empty _ (by omega)
  have hp : Lib.hasPrefix (strOfNums (ds.map dg)).data.toList [48, 120] = false := by
    rw [Tp.data]
    cases ds with
    | nil => simp at h3
    | cons d ds => exact Tp.no_prefix _ ds (fun x hx => h2 x (by simp [hx]))
  by_cases hl : (strOfNums (ds.map dg)).size ≤ 1
  · exact Nm.ten_a _ ds w hne hp hl hR
  · refine Nm.ten_b _ ds w hne hp (by omega) ?_ (by omega) hR
    have := (hR.2 0 (by omega)).1
    rw [this]
    cases ds with
    | nil => simp at h3
    | cons d ds =>
      have hd := h4 (by omega)
      have hd2 := h2 d (by simp)
      simp at hd
      simp only [List.getD_cons_zero]
      have : dg d ≠ 48 := by unfold dg dgI; split <;> omega
      simpa using this

theorem Tp.hex (v : Nat) (ds : List Nat) (r : Int) (w : World) (h : Hid (Tp.Good 16 v ds)) (hr : Hid (r = ((min v 4294967296 : Nat) : Int))) :
    Calls Try.prog 7 #[.string ({ data := #[48, 120] } ++ strOfNums (ds.map dg))] w fun e w' => e = .returned (.tuple #[.int .u64 r, .bool true]) ∧ ∃ q, w' = w.drewN q := by
  rw [hr.out, ← Tp.value (by omega) h.out]
  apply Tp.zz
  obtain ⟨h1, h2, h3, h4, h5⟩ := h.out
  have hR : Nm.Reads 16 (strOfNums (ds.map dg)) ds := Tp.reads 16 ds (by omega) h2
  have hs := Tp.size ds
  refine Nm.hex _ (strOfNums (ds.map dg)) ds w (Tp.not_empty _ (by rw [ByteArray.size_append']; show 0 < 2 + _; omega)) ?_ (by omega) hR
  show _ = _
  rw [ByteArray.data_append]
  simp

theorem Tp.oct (v : Nat) (ds : List Nat) (r : Int) (w : World) (h : Hid (Tp.Good 8 v ds)) (hr : Hid (r = ((min v 4294967296 : Nat) : Int))) :
    Calls Try.prog 7 #[.string ({ data := #[48] } ++ strOfNums (ds.map dg))] w fun e w' => e = .returned (.tuple #[.int .u64 r, .bool true]) ∧ ∃ q, w' = w.drewN q := by
  rw [hr.out, ← Tp.value (by omega) h.out]
  apply Tp.zz
  obtain ⟨h1, h2, h3, h4, h5⟩ := h.out
  have hR : Nm.Reads 8 (strOfNums (ds.map dg)) ds := Tp.reads 8 ds (by omega) h2
  have hs := Tp.size ds
  have hpos := List.length_pos_iff.2 h3
  have hz : (ByteArray.mk #[48] ++ strOfNums (ds.map dg)).size = 1 + ds.length := by rw [ByteArray.size_append', hs]; rfl
  have hd : (ByteArray.mk #[48] ++ strOfNums (ds.map dg)).data.toList = 48 :: (strOfNums (ds.map dg)).data.toList := by
    rw [ByteArray.data_append]; simp
  refine Nm.oct _ (strOfNums (ds.map dg)) ds w (Tp.not_empty _ (by omega)) ?_ (by omega) ?_ ?_ (by omega) hR
  · rw [hd, Tp.data]
    exact Tp.no_prefix _ ds (fun x hx => by have := h2 x hx; omega)
  · rw [← Tp.getD_get _ 0 (by omega), hd]; rfl
  · show _ = _
    rw [Lib.extract_eq, hd, hz]
    simp only [List.drop_succ_cons, List.drop_zero]
    rw [List.take_of_length_le (by rw [← Lib.size_eq, hs]; omega), Lib.mk_data]

theorem Tp.grown_drewN {W w : World} (h : Grown W w) (n : Nat) : Grown W (w.drewN n) := h

set_option maxHeartbeats 400000 in
theorem Tp.top (v : Nat) (w : World) (hv : (v : Int) ≤ 18446744073709551615) :
    Calls Try.prog 4 #[.int .u64 v] w fun e w' => e = .returned (.bool true) ∧ Grown w w' := by
  by_cases hc : (4294967296 : Int) < v
  · have HR : Hid ((4294967296 : Int) = ((min v 4294967296 : Nat) : Int)) := by show (_ : Int) = _; omega
    go_enter Try.func4, Try.ntmps4
    go_wp2_with fail
    refine (Tp.spell v 10 _ hv (by omega) (by omega)).mono ?_
    rintro e w1 ⟨d1, G1, rfl, cs1, rfl⟩
    go_wp2_with fail
    refine (Tp.ten v d1 (4294967296 : Int) _ G1 HR).mono ?_
    rintro e w2 ⟨rfl, q1, rfl⟩
    go_wp2_with fail
    refine (Tp.spell v 16 _ hv (by omega) (by omega)).mono ?_
    rintro e w3 ⟨d2, G2, rfl, cs2, rfl⟩
    have z2 : (strOfNums (List.map dg d2)).size ≤ 64 := by rw [Tp.size]; exact G2.out.2.2.2.2
    go_wp2_with fail
    refine (Tp.hex v d2 (4294967296 : Int) _ G2 HR).mono ?_
    rintro e w4 ⟨rfl, q2, rfl⟩
    go_wp2_with fail
    refine (Tp.spell v 8 _ hv (by omega) (by omega)).mono ?_
    rintro e w5 ⟨d3, G3, rfl, cs3, rfl⟩
    have z3 : (strOfNums (List.map dg d3)).size ≤ 64 := by rw [Tp.size]; exact G3.out.2.2.2.2
    go_wp2_with fail
    refine (Tp.oct v d3 (4294967296 : Int) _ G3 HR).mono ?_
    rintro e w6 ⟨rfl, q3, rfl⟩
    go_wp2
    go_ret
    exact ⟨rfl, Tp.grown_drewN ((Tp.grown_drewN ((Tp.grown_drewN ((Grown.refl _).alloc _ _) _).alloc _ _) _).alloc _ _) _⟩
  · have HR : Hid ((v : Int) = ((min v 4294967296 : Nat) : Int)) := by show (_ : Int) = _; omega
    go_enter Try.func4, Try.ntmps4
    go_wp2_with fail
    refine (Tp.spell v 10 _ hv (by omega) (by omega)).mono ?_
    rintro e w1 ⟨d1, G1, rfl, cs1, rfl⟩
    go_wp2_with fail
    refine (Tp.ten v d1 (v : Int) _ G1 HR).mono ?_
    rintro e w2 ⟨rfl, q1, rfl⟩
    go_wp2_with fail
    refine (Tp.spell v 16 _ hv (by omega) (by omega)).mono ?_
    rintro e w3 ⟨d2, G2, rfl, cs2, rfl⟩
    have z2 : (strOfNums (List.map dg d2)).size ≤ 64 := by rw [Tp.size]; exact G2.out.2.2.2.2
    go_wp2_with fail
    refine (Tp.hex v d2 (v : Int) _ G2 HR).mono ?_
    rintro e w4 ⟨rfl, q2, rfl⟩
    go_wp2_with fail
    refine (Tp.spell v 8 _ hv (by omega) (by omega)).mono ?_
    rintro e w5 ⟨d3, G3, rfl, cs3, rfl⟩
    have z3 : (strOfNums (List.map dg d3)).size ≤ 64 := by rw [Tp.size]; exact G3.out.2.2.2.2
    go_wp2_with fail
    refine (Tp.oct v d3 (v : Int) _ G3 HR).mono ?_
    rintro e w6 ⟨rfl, q3, rfl⟩
    go_wp2
    go_ret
    exact ⟨rfl, Tp.grown_drewN ((Tp.grown_drewN ((Tp.grown_drewN ((Grown.refl _).alloc _ _) _).alloc _ _) _).alloc _ _) _⟩

end Go.Proofs.Qxb6600197a
