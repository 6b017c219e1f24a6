import Derived.Test.Qxb6601022aMem
import Derived.Lib.SliceRun
import Derived.OwnWalk
namespace Go.Proofs.Qxb6601022a
open Go.RowKit Go.Proofs.Qxb6601022a.Pl

theorem Try.info9 : (Try.prog.info? 9).map (fun i => (i.zero, i.size, i.bytes)) = some (some (.string ⟨#[]⟩), 1, 16) := by kernel_rfl
theorem Try.info37 : (Try.prog.info? 37).map (fun i => (i.zero, i.size, i.bytes)) = some (some (.agg #[.int .u8 0, .string ⟨#[]⟩, .bool false, .bool false]), 4, 32) := by kernel_rfl

theorem Cl.eql23 (w : World) (a : Option Addr) (n c n' c' : Nat) : (binOp .eql 23 (.slice a n c) (.slice Option.none n' c')).run Try.prog w = .ok (.bool a.isNone) w := Lib.run_eql_slice_nil w _ _ a n c n' c' Try.underlying23
theorem Cl.eql22 (w : World) (a : Option Addr) (n c n' c' : Nat) : (binOp .eql 22 (.slice a n c) (.slice Option.none n' c')).run Try.prog w = .ok (.bool a.isNone) w := Lib.run_eql_slice_nil w _ _ a n c n' c' Try.underlying22

theorem Cl.make9 (n : Nat) (hn : n ≤ 1048576) : ∀ w, (Instr.makeSlice 23 (.int .i64 n) (.int .i64 n)).run Try.prog w = .ok (.slice (some ⟨w.heap.size, 0, Option.none⟩) n n) (w.alloc (.cells (madeCells #[.string ⟨#[]⟩] n) 9)) := by
  intro w
  obtain ⟨i, hi, hz0, hz1, hz2⟩ := info_parts Try.info9
  have h := run_make (P := Try.prog) w 23 9 i _ Try.underlying23 hi hz0 .i64 .i64 n n (by omega) (by omega) (by rw [hz2]; omega) (by omega)
  rw [h, hz1]
  simp [Value.cells]

theorem Cl.make37 (n : Nat) (hn : n ≤ 1048576) : ∀ w, (Instr.makeSlice 22 (.int .i64 n) (.int .i64 n)).run Try.prog w = .ok (.slice (some ⟨w.heap.size, 0, Option.none⟩) n n) (w.alloc (.cells (madeCells #[.int .u8 0, .string ⟨#[]⟩, .bool false, .bool false] (n * 4)) 37)) := by
  intro w
  obtain ⟨i, hi, hz0, hz1, hz2⟩ := info_parts Try.info37
  have h := run_make (P := Try.prog) w 22 37 i _ Try.underlying22 hi hz0 .i64 .i64 n n (by omega) (by omega) (by rw [hz2]; omega) (by omega)
  rw [h, hz1]
  simp [Value.cells]

/-- the first k cells hold the strings -/
def Cl.Strs (cs : Array Value) (xs : List ByteArray) (k : Nat) : Prop := cs.size = xs.length ∧ ∀ j, j < k → (h : j < xs.length) → cs[j]? = some (.string xs[j])

theorem Cl.strs_step {cs : Array Value} {xs : List ByteArray} {k : Nat} (h : Cl.Strs cs xs k) (hk : k < xs.length) : Cl.Strs (cs.setIfInBounds k (.string xs[k])) xs (k + 1) := by
  refine ⟨by simpa using h.1, fun j hj hl => ?_⟩
  rw [Array.getElem?_setIfInBounds]
  by_cases e : k = j
  · subst e; simp [h.1, hl]
  · rw [if_neg e]; exact h.2 j (by omega) hl

theorem Cl.strs_end {w : World} {cs : Array Value} {xs : List ByteArray} {k : Nat} (h : Cl.Strs cs xs k) (hk : ¬ k < xs.length) : StrsV (w.alloc (.cells cs 9)) (some ⟨w.heap.size, 0, Option.none⟩) xs := by
  refine .inr ⟨_, _, rfl, fun i hi => ?_⟩
  have := h.2 i (by omega) hi
  simp [this]

set_option maxHeartbeats 400000 in
theorem Cl.words (a : Option Addr) (c : Nat) (xs : List ByteArray) (w : World) (hx : xs.length ≤ 1048576) (HX : Hid (StrsV w a xs)) :
    Calls Try.prog 14 #[.slice a xs.length c] w fun e w' => ∃ a' c', e = .returned (.slice a' xs.length c') ∧ StrsV w' a' xs ∧ Below w.heap.size w w' := by
  have heq := Cl.eql23
  have hmk := Cl.make9 xs.length hx
  cases a with
  | none =>
    have hl : xs = [] := by
      rcases HX.out with h | ⟨b, off, h, _⟩
      · exact h
      · cases h
    subst hl
    go_enter Try.func14, Try.ntmps14
    go_wp2
    go_ret
    exact ⟨Option.none, 0, rfl, .inl rfl, Below.refl _ _⟩
  | some a =>
    go_enter Try.func14, Try.ntmps14
    go_wp2
    go_loopw [4] (fun i wr => ∃ (k : Nat) (cs : Array Value), k ≤ xs.length ∧ i = .int .i64 k ∧ wr = w.alloc (.cells cs 9) ∧ Hid (Cl.Strs cs xs k)) (fun i _ => xs.length - (intOf i).toNat)
    case atStart => exact ⟨0, _, Nat.zero_le _, rfl, rfl, by simp [size_madeCells], fun j hj => by omega⟩
    case round =>
      obtain ⟨k, cs, hk, rfl, rfl, HS⟩ := hrel
      by_cases hlt : k < xs.length
      · obtain ⟨b, off, ha, hcell⟩ := HX.out.at (fun _ => rfl) hlt
        obtain rfl : a = ⟨b, off, Option.none⟩ := by injection ha
        have hbl : b < w.heap.size := World.block_lt_of_cell? w _ hcell
        obtain ⟨old, hold⟩ : ∃ old, cs[k]? = some old := ⟨_, Array.getElem?_eq_getElem (by have := HS.out.1; omega)⟩
        go_wp2
        go_roundw
        case rel => exact ⟨k + 1, _, by omega, by go_num, rfl, Cl.strs_step HS.out hlt⟩
        case measure => simp [intOf]; omega
      · go_wp2
        go_ret
        exact ⟨_, _, rfl, Cl.strs_end HS.out hlt, (Below.refl _ _).alloc (Nat.le_refl _) _⟩

/-- the first k groups of four cells hold the options -/
def Cl.Opts (cs : Array Value) (os : List Opt) (k : Nat) : Prop := cs.size = os.length * 4 ∧ ∀ j, j < k → (h : j < os.length) →
  cs[j * 4]? = some (.int .u8 os[j].l.toNat) ∧ cs[j * 4 + 1]? = some (.string os[j].v) ∧ cs[j * 4 + 2]? = some (.bool os[j].nw) ∧ cs[j * 4 + 3]? = some (.bool os[j].att)

theorem Cl.opts_step {cs : Array Value} {os : List Opt} {k : Nat} (h : Cl.Opts cs os k) (hk : k < os.length) :
    Cl.Opts ((((cs.setIfInBounds (k * 4) (Value.int IntKind.u8 ↑os[k].l.toNat)).setIfInBounds (k * 4 + 1) (Value.string os[k].v)).setIfInBounds (k * 4 + 2) (Value.bool os[k].nw)).setIfInBounds (k * 4 + 3) (Value.bool os[k].att)) os (k + 1) := by
  refine ⟨by simpa using h.1, fun j hj hl => ?_⟩
  have hs := h.1
  by_cases e : k = j
  · subst e
    refine ⟨?_, ?_, ?_, ?_⟩
    · rw [Array.getElem?_setIfInBounds_ne (by omega), Array.getElem?_setIfInBounds_ne (by omega), Array.getElem?_setIfInBounds_ne (by omega), Array.getElem?_setIfInBounds_self_of_lt (by omega)]
    · rw [Array.getElem?_setIfInBounds_ne (by omega), Array.getElem?_setIfInBounds_ne (by omega), Array.getElem?_setIfInBounds_self_of_lt (by simp; omega)]
    · rw [Array.getElem?_setIfInBounds_ne (by omega), Array.getElem?_setIfInBounds_self_of_lt (by simp; omega)]
    · rw [Array.getElem?_setIfInBounds_self_of_lt (by simp; omega)]
  · obtain ⟨h0, h1, h2, h3⟩ := h.2 j (by omega) hl
    refine ⟨?_, ?_, ?_, ?_⟩
    · rw [Array.getElem?_setIfInBounds_ne (by omega), Array.getElem?_setIfInBounds_ne (by omega), Array.getElem?_setIfInBounds_ne (by omega), Array.getElem?_setIfInBounds_ne (by omega), h0]
    · rw [Array.getElem?_setIfInBounds_ne (by omega), Array.getElem?_setIfInBounds_ne (by omega), Array.getElem?_setIfInBounds_ne (by omega), Array.getElem?_setIfInBounds_ne (by omega), h1]
    · rw [Array.getElem?_setIfInBounds_ne (by omega), Array.getElem?_setIfInBounds_ne (by omega), Array.getElem?_setIfInBounds_ne (by omega), Array.getElem?_setIfInBounds_ne (by omega), h2]
    · rw [Array.getElem?_setIfInBounds_ne (by omega), Array.getElem?_setIfInBounds_ne (by omega), Array.getElem?_setIfInBounds_ne (by omega), Array.getElem?_setIfInBounds_ne (by omega), h3]

theorem Cl.opts_end {w : World} {cs : Array Value} {os : List Opt} {k : Nat} (h : Cl.Opts cs os k) (hk : ¬ k < os.length) : OptsV (w.alloc (.cells cs 37)) (some ⟨w.heap.size, 0, Option.none⟩) os := by
  refine .inr ⟨_, _, rfl, fun i hi => ?_⟩
  obtain ⟨h0, h1, h2, h3⟩ := h.2 i (by omega) hi
  refine ⟨?_, ?_, ?_, ?_⟩ <;> simp [h0, h1, h2, h3]

set_option maxHeartbeats 400000 in
theorem Cl.opts (a : Option Addr) (c : Nat) (os : List Opt) (w : World) (hx : os.length ≤ 1048576) (HO : Hid (OptsV w a os)) :
    Calls Try.prog 13 #[.slice a os.length c] w fun e w' => ∃ a' c', e = .returned (.slice a' os.length c') ∧ OptsV w' a' os ∧ Below w.heap.size w w' := by
  have heq := Cl.eql22
  have hmk := Cl.make37 os.length hx
  cases a with
  | none =>
    have hl : os = [] := by
      rcases HO.out with h | ⟨b, off, h, _⟩
      · exact h
      · cases h
    subst hl
    go_enter Try.func13, Try.ntmps13
    go_wp2
    go_ret
    exact ⟨Option.none, 0, rfl, .inl rfl, Below.refl _ _⟩
  | some a =>
    go_enter Try.func13, Try.ntmps13
    go_wp2
    go_loopw [4] (fun i wr => ∃ (k : Nat) (cs : Array Value), k ≤ os.length ∧ i = .int .i64 k ∧ wr = w.alloc (.cells cs 37) ∧ Hid (Cl.Opts cs os k)) (fun i _ => os.length - (intOf i).toNat)
    case atStart => exact ⟨0, _, Nat.zero_le _, rfl, rfl, by simp [size_madeCells], fun j hj => by omega⟩
    case round =>
      obtain ⟨k, cs, hk, rfl, rfl, HS⟩ := hrel
      by_cases hlt : k < os.length
      · obtain ⟨b, off, ha, hc0, hc1, hc2, hc3⟩ := HO.out.at (fun _ => rfl) hlt
        obtain rfl : a = ⟨b, off, Option.none⟩ := by injection ha
        have hbl : b < w.heap.size := World.block_lt_of_cell? w _ hc0
        have hsz := HS.out.1
        obtain ⟨o0, ho0⟩ : ∃ old, cs[k * 4]? = some old := ⟨_, Array.getElem?_eq_getElem (by omega)⟩
        obtain ⟨o1, ho1⟩ : ∃ old, cs[k * 4 + 1]? = some old := ⟨_, Array.getElem?_eq_getElem (by omega)⟩
        obtain ⟨o2, ho2⟩ : ∃ old, cs[k * 4 + 2]? = some old := ⟨_, Array.getElem?_eq_getElem (by omega)⟩
        obtain ⟨o3, ho3⟩ : ∃ old, cs[k * 4 + 3]? = some old := ⟨_, Array.getElem?_eq_getElem (by omega)⟩
        clear hsz
        go_wp2
        go_roundw
        case rel => exact ⟨k + 1, _, by omega, by go_num, rfl, Cl.opts_step HS.out hlt⟩
        case measure => simp [intOf]; omega
      · go_wp2
        go_ret
        exact ⟨_, _, rfl, Cl.opts_end HS.out hlt, (Below.refl _ _).alloc (Nat.le_refl _) _⟩

end Go.Proofs.Qxb6601022a
