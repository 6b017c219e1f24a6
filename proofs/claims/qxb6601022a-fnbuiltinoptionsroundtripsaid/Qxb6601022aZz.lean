import Derived.Test.Qxb6601022aOpts
namespace Go.Proofs.Qxb6601022a
open Go.RowKit Go.Proofs.Qxb6601022a.Pl

/-- a slice of bytes: no element, or a row of them -/
def BytesV (w : World) (a : Option Addr) (l : List UInt8) : Prop := l = [] ∨ ∃ b off, a = some ⟨b, off, Option.none⟩ ∧ ∀ i (h : i < l.length), w.cell? ⟨b, off + i, Option.none⟩ = some (.int .u8 l[i].toNat)

/-- a slice of options that came back -/
def PairsV (w : World) (a : Option Addr) (ps : List (UInt8 × ByteArray)) : Prop := ps = [] ∨ ∃ b, a = some ⟨b, 0, Option.none⟩ ∧ ∀ i (h : i < ps.length), w.cell? ⟨b, i * 3, Option.none⟩ = some (.int .u8 ps[i].1.toNat) ∧ w.cell? ⟨b, i * 3 + 2, Option.none⟩ = some (.string ps[i].2)

theorem OwnsW.seen {base : Nat} {w : World} {v : Value} {ws : List ByteArray} (h : OwnsW base w v ws) : ∃ a c, v = .slice a ws.length c ∧ ws.length ≤ c ∧ StrsV w a ws := by
  rcases h.2 with ⟨rfl, hn⟩ | ⟨g, cap, cur, rfl, _, hg, hnc, _⟩
  · exact ⟨Option.none, 0, by rw [hn], by omega, .inl (List.eq_nil_of_length_eq_zero hn)⟩
  · refine ⟨_, _, rfl, hnc, .inr ⟨g, 0, rfl, fun i hi => ?_⟩⟩
    have := World.ownsRow.cellAt h i (by omega)
    rw [Nat.zero_add, this]
    simp [List.getElem?_eq_getElem hi]

theorem OwnsB.seen {base : Nat} {w : World} {v : Value} {l : List UInt8} (h : OwnsB base w v l) : ∃ a c, v = .slice a l.length c ∧ BytesV w a l := by
  rcases h.2 with ⟨rfl, hn⟩ | ⟨g, cap, cur, rfl, _, hg, hnc, _⟩
  · exact ⟨Option.none, 0, by rw [hn], .inl (List.eq_nil_of_length_eq_zero hn)⟩
  · refine ⟨_, _, rfl, .inr ⟨g, 0, rfl, fun i hi => ?_⟩⟩
    have := World.ownsRow.cellAt h i (by omega)
    rw [Nat.zero_add, this]
    simp [List.getElem?_eq_getElem hi, bcell]

theorem flat_at : ∀ (ps : List (UInt8 × ByteArray)) (i j : Nat) (_ : j < 3), (ps.flatMap ocells)[i * 3 + j]? = (ps[i]?).bind fun p => (ocells p)[j]?
  | [], i, j, _ => by simp
  | p :: ps, 0, j, hj => by
    rw [List.flatMap_cons, List.getElem?_append_left (by simp [ocells]; omega)]
    simp
  | p :: ps, i + 1, j, hj => by
    rw [List.flatMap_cons, List.getElem?_append_right (by simp [ocells]; omega)]
    have : (i + 1) * 3 + j - (ocells p).length = i * 3 + j := by simp [ocells]; omega
    rw [this, flat_at ps i j hj]
    simp

theorem OwnsO.seen {base : Nat} {w : World} {v : Value} {ps : List (UInt8 × ByteArray)} (h : OwnsO base w v ps) : ∃ a c, v = .slice a ps.length c ∧ PairsV w a ps := by
  rcases h.2 with ⟨rfl, hn⟩ | ⟨g, cap, cur, rfl, _, hg, hnc, _⟩
  · exact ⟨Option.none, 0, by rw [hn], .inl (List.eq_nil_of_length_eq_zero hn)⟩
  · refine ⟨_, _, rfl, .inr ⟨g, rfl, fun i hi => ⟨?_, ?_⟩⟩⟩
    · have := World.ownsRow.cellAt h (i * 3) (by omega)
      rw [this]
      have := flat_at ps i 0 (by omega)
      rw [Nat.add_zero] at this
      rw [this]
      simp [List.getElem?_eq_getElem hi, ocells]
    · have := World.ownsRow.cellAt h (i * 3 + 2) (by omega)
      rw [this, flat_at ps i 2 (by omega)]
      simp [List.getElem?_eq_getElem hi, ocells]

theorem PairsV.at {w w' : World} {a : Option Addr} {ps : List (UInt8 × ByteArray)} (h : PairsV w a ps) (hb : Below w.heap.size w w') {k : Nat} (hk : k < ps.length) :
    ∃ b, a = some ⟨b, 0, Option.none⟩ ∧ b < w.heap.size ∧ w'.cell? ⟨b, k * 3, Option.none⟩ = some (.int .u8 ps[k].1.toNat) ∧ w'.cell? ⟨b, k * 3 + 2, Option.none⟩ = some (.string ps[k].2) := by
  rcases h with h | ⟨b, ha, h⟩
  · subst h; simp at hk
  · obtain ⟨h0, h1⟩ := h k hk
    have hbl : b < w.heap.size := World.block_lt_of_cell? w _ h0
    exact ⟨b, ha, hbl, (hb.cell (p := ⟨b, _, Option.none⟩) hbl).trans h0, (hb.cell (p := ⟨b, _, Option.none⟩) hbl).trans h1⟩

theorem Zz.eql56 (w : World) (a : Option Addr) (n c n' c' : Nat) : (binOp .eql 56 (.slice a n c) (.slice Option.none n' c')).run Try.prog w = .ok (.bool a.isNone) w := Lib.run_eql_slice_nil w _ _ a n c n' c' Try.underlying56

theorem take_map_succ {α β : Type} (l : List α) (f : α → β) (k : Nat) (h : k < l.length) : (l.take (k + 1)).map f = (l.take k).map f ++ [f l[k]] := by
  rw [List.take_succ_eq_append_getElem h, List.map_append, List.map_cons, List.map_nil]

set_option maxRecDepth 100000 in
set_option maxHeartbeats 1000000 in
theorem Zz.options (s : ByteArray) (a : Option Addr) (c : Nat) (os : List Opt) (xs R : List ByteArray) (d : Bool) (w : World) (hs : s.size ≤ 1048576) (ho : os.length ≤ 1048576) (hc : xs.length ≤ c) (hx : xs.length ≤ 4194304) (hz : ∀ x ∈ xs, x.size ≤ 4194304)
    (HS : Hid (Bo.St (B s) os os ((if d then [[45, 45]] else []) ++ R.map B) w a xs [])) (HP : Hid (d = false → Plainly (R.map B))) :
    Calls Try.prog 16 #[.slice a xs.length c, .string s] w fun e w' => ∃ al cl av cv ar cr bn, e = .returned (.tuple #[.slice al os.length cl, .slice av os.length cv, .slice ar R.length cr, .bool bn, .bool true]) ∧
      BytesV w' al ((expect (B s) os).map Prod.fst) ∧ StrsV w' av ((expect (B s) os).map Prod.snd) ∧ StrsV w' ar R ∧ Below w.heap.size w w' := by
  have heq := Zz.eql56
  go_enter Try.func16, Try.ntmps16
  go_wp2_with fail
  refine (Bo.parse s a c os xs R d w hs ho hc hx hz HS HP).mono ?_
  rintro e w1 ⟨vo, ar, cr, rfl, hR, hB⟩
  clear HS HP hx hz hc
  obtain ⟨ao, co, rfl, hP⟩ := hB.o.seen
  have HB : Hid (Below w.heap.size w w1) := hB.n
  have HR : Hid (StrsV w ar R) := hR
  have HPs : Hid (PairsV w1 ao (expect (B s) os)) := hP
  obtain ⟨ps, hps⟩ : ∃ ps, ps = expect (B s) os := ⟨_, rfl⟩
  have hl : ps.length = os.length := by rw [hps]; simp [expect]
  have hpl : ps.length ≤ 1048576 := by omega
  rw [← hps] at HPs ⊢
  have HD : Hid (ps = expect (B s) os) := hps
  have HL : Hid (ps.length = os.length) := hl
  clear hps hl hR hB hP
  go_wp2
  go_loopw [12, 13, 14] (fun vl vv i wr => ∃ (k : Nat) (ls : List UInt8) (vs : List ByteArray), k ≤ ps.length ∧ i = .int .i64 k ∧ ls.length ≤ k ∧ vs.length ≤ k ∧ Hid (ls = (ps.take k).map Prod.fst ∧ vs = (ps.take k).map Prod.snd) ∧ Hid (Rs w1 wr vv vl vs ls)) (fun _ _ i _ => ps.length - (intOf i).toNat)
  case atStart => exact ⟨0, [], [], Nat.zero_le _, rfl, by simp, by simp, ⟨by simp, by simp⟩, ⟨World.ownsRow_nil _ _ _ _, World.ownsRow_nil _ _ _ _, Below.refl _ _⟩⟩
  case round =>
    obtain ⟨k, ls, vs, hk, rfl, hll, hvl, HE, HS⟩ := hrel
    by_cases hlt : k < ps.length
    · obtain ⟨b, rfl, hbl, c0, _⟩ := HPs.out.at HS.out.n hlt
      go_wp2_with (at_builtin; go_must (refine Rw.addByte rfl (.tmp 28) (.tmp 34) rfl w1 wr u13 u12 vs ls ps[k].1 rfl rfl HS (by omega) ?_))
      intro v2 w2 HS2 HK2
      clear HS HK2 c0
      obtain ⟨b', hb', _, _, c1⟩ := HPs.out.at HS2.out.n hlt
      obtain rfl : b = b' := by injection hb' with hb'; injection hb'
      clear hb'
      go_wp2_with (at_builtin; go_must (refine Rw.addWord rfl (.tmp 36) (.tmp 42) rfl w1 w2 u13 v2 vs (ls ++ [ps[k].1]) ps[k].2 rfl rfl HS2 (by omega) ?_))
      intro v3 w3 HS3 HK3
      go_wp2
      go_roundw
      case rel => exact ⟨k + 1, ls ++ [ps[k].1], vs ++ [ps[k].2], by omega, by go_num, by simp; omega, by simp; omega, ⟨by rw [take_map_succ ps _ k hlt, HE.out.1], by rw [take_map_succ ps _ k hlt, HE.out.2]⟩, HS3⟩
      case measure => simp [intOf]; omega
    · go_wp2
      obtain ⟨h1, h2⟩ := HE.out
      rw [List.take_of_length_le (by omega)] at h1 h2
      obtain ⟨al, cl, el, hl⟩ := HS.out.b.seen
      obtain ⟨av, cv, ev, _, hv⟩ := HS.out.a.seen
      have e1 : ls.length = os.length := by rw [h1, List.length_map]; exact HL.out
      have e2 : vs.length = os.length := by rw [h2, List.length_map]; exact HL.out
      refine bodyPost_ret (v := .tuple #[u12, u13, .slice ar R.length cr, .bool ao.isNone, .bool true]) (by simp [results, Try.results16, go_sem]) rfl ?_
      refine ⟨al, cl, av, cv, ar, cr, ao.isNone, by rw [el, ev, e1, e2], ?_, ?_, ?_, ?_⟩
      · rw [← HD.out, ← h1]; exact hl
      · rw [← HD.out, ← h2]; exact hv
      · exact (HR.out.below HB.out).below HS.out.n
      · exact HB.out.trans (HS.out.n.mono HB.out.size)

end Go.Proofs.Qxb6601022a
