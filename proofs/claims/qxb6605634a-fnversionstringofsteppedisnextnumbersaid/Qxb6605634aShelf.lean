/-
  The library contracts of the shelf at this dump, in plain words (written by the shelf tool; those that this proof takes).
-/
import Derived.Shelf.Strings.Search1
import Derived.Shelf.Strings.Search2
import Derived.Shelf.Strings.IndexAnyAll
import Derived.Test.Qxb6605634aProg
namespace Go.Proofs
open Go.Shelf
def Try.lays219_ren : Go.Shelf.Ren := ⟨fun | 219 => 100 | 217 => 104 | 225 => 99 | 224 => 98 | 267 => 105 | 266 => 107 | 314 => 108 | n => n, fun | 9 => 9 | 3 => 3 | 4 => 4 | 5 => 5 | 46 => 128 | 146 => 131 | 51 => 130 | n => n, fun | 1 => 0 | n => n⟩
theorem Try.lays219 : Go.Proofs.Lays.n219 Try.prog Try.lays219_ren := {
  mixed := by kernel_rfl
  f217 := Try.func104.trans (congrArg some (by kernel_rfl))
  f219 := Try.func100.trans (congrArg some (by kernel_rfl))
  f224 := Try.func98.trans (congrArg some (by kernel_rfl))
  f225 := Try.func99.trans (congrArg some (by kernel_rfl))
  f266 := Try.func107.trans (congrArg some (by kernel_rfl))
  f267 := Try.func105.trans (congrArg some (by kernel_rfl))
  f314 := Try.func108.trans (congrArg some (by kernel_rfl))
  t3 := Try.underlying3
  a3 := Try.isAgg3
  z3 := Try.sizeOf3
  v3 := Try.zeroValue3
  t4 := Try.underlying4
  a4 := Try.isAgg4
  z4 := Try.sizeOf4
  v4 := Try.zeroValue4
  t5 := Try.underlying5
  a5 := Try.isAgg5
  z5 := Try.sizeOf5
  v5 := Try.zeroValue5
  t9 := Try.underlying9
  a9 := Try.isAgg9
  z9 := Try.sizeOf9
  v9 := Try.zeroValue9
  t46 := Try.underlying128
  a46 := Try.isAgg128
  z46 := Try.sizeOf128
  v46 := Try.zeroValue128
  t51 := Try.underlying130
  a51 := Try.isAgg130
  z51 := Try.sizeOf130
  v51 := Try.zeroValue130
  t146 := Try.underlying131
  a146 := Try.isAgg131
  z146 := Try.sizeOf131
  v146 := Try.zeroValue131
  g1 := by kernel_rfl }
open Go.RowKit Go.Lib in
theorem Try.stringslite_Index_one (s : ByteArray) (c : UInt8) (w : World) :
    Calls Try.prog 100 #[.string s, .string ⟨#[c]⟩] w fun e w' => e = .returned (.int .i64 (Lib.indexByte s.data.toList c)) ∧ w' = w := Any.stringslite_Index_one Try.lays219 s c w
def Try.lays153_ren : Go.Shelf.Ren := ⟨fun | 153 => 77 | 152 => 86 | 226 => 87 | 227 => 88 | 228 => 89 | 137 => 96 | 119 => 97 | 224 => 98 | 225 => 99 | 217 => 104 | 266 => 107 | n => n, fun | 9 => 9 | 3 => 3 | 4 => 4 | 5 => 5 | 21 => 21 | 117 => 120 | 116 => 119 | 0 => 0 | 46 => 128 | 124 => 129 | n => n, fun | n => n⟩
theorem Try.lays153 : Go.Proofs.Lays.n153 Try.prog Try.lays153_ren := {
  mixed := by kernel_rfl
  f119 := Try.func97.trans (congrArg some (by kernel_rfl))
  f137 := Try.func96.trans (congrArg some (by kernel_rfl))
  f152 := Try.func86.trans (congrArg some (by kernel_rfl))
  f153 := Try.func77.trans (congrArg some (by kernel_rfl))
  f217 := Try.func104.trans (congrArg some (by kernel_rfl))
  f224 := Try.func98.trans (congrArg some (by kernel_rfl))
  f225 := Try.func99.trans (congrArg some (by kernel_rfl))
  f226 := Try.func87.trans (congrArg some (by kernel_rfl))
  f227 := Try.func88.trans (congrArg some (by kernel_rfl))
  f228 := Try.func89.trans (congrArg some (by kernel_rfl))
  f266 := Try.func107.trans (congrArg some (by kernel_rfl))
  t0 := Try.underlying0
  a0 := Try.isAgg0
  z0 := Try.sizeOf0
  v0 := Try.zeroValue0
  t3 := Try.underlying3
  a3 := Try.isAgg3
  z3 := Try.sizeOf3
  v3 := Try.zeroValue3
  t4 := Try.underlying4
  a4 := Try.isAgg4
  z4 := Try.sizeOf4
  v4 := Try.zeroValue4
  t5 := Try.underlying5
  a5 := Try.isAgg5
  z5 := Try.sizeOf5
  v5 := Try.zeroValue5
  t9 := Try.underlying9
  a9 := Try.isAgg9
  z9 := Try.sizeOf9
  v9 := Try.zeroValue9
  t21 := Try.underlying21
  a21 := Try.isAgg21
  z21 := Try.sizeOf21
  v21 := Try.zeroValue21
  t46 := Try.underlying128
  a46 := Try.isAgg128
  z46 := Try.sizeOf128
  v46 := Try.zeroValue128
  t116 := Try.underlying119
  a116 := Try.isAgg119
  z116 := Try.sizeOf119
  t117 := Try.underlying120
  a117 := Try.isAgg120
  z117 := Try.sizeOf120
  v117 := Try.zeroValue120
  t124 := Try.underlying129
  a124 := Try.isAgg129
  z124 := Try.sizeOf129
  v124 := Try.zeroValue129 }
open Go.RowKit Go.Lib in
theorem Try.strings_IndexAny_laid (s chars : ByteArray) (w : World) (hs : s.size < 4294967281) (hcs : chars.size < 4294967281) (has : ∀ (j : Nat) b, s.data.toList[j]? = some b → b.toNat < 128) (hac : ∀ (j : Nat) b, chars.data.toList[j]? = some b → b.toNat < 128) :
    Calls Try.prog 77 #[.string s, .string chars] w fun e w' => e = .returned (.int .i64 (Lib.indexAny s.data.toList chars.data.toList)) ∧ Below w.heap.size w w' := Any.strings_IndexAny_laid Try.lays153 (by kernel_rfl) s chars w hs hcs has hac
end Go.Proofs
