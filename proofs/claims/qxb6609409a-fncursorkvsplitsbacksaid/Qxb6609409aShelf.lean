/- The shelf's contracts for strings.IndexByte and strings.Contains at one byte, laid at this dump in plain words (lay-shelf.mjs, lay-plain.mjs). -/
import Derived.Shelf.Small.Strs
import Derived.Shelf.Strings.Search3
import Derived.Test.Qxb6609409aProg
namespace Go.Proofs
open Go.Shelf
def Try.lays137_ren : Go.Shelf.Ren := ⟨fun | 137 => 13 | 217 => 15 | 266 => 17 | n => n, fun | 9 => 9 | 5 => 5 | 3 => 3 | n => n, fun | n => n⟩
theorem Try.lays137 : Go.Proofs.Lays.n137 Try.prog Try.lays137_ren := {
  mixed := by kernel_rfl
  f137 := Try.func13.trans (congrArg some (by kernel_rfl))
  f217 := Try.func15.trans (congrArg some (by kernel_rfl))
  f266 := Try.func17.trans (congrArg some (by kernel_rfl))
  t3 := Try.underlying3
  a3 := Try.isAgg3
  z3 := Try.sizeOf3
  v3 := Try.zeroValue3
  t5 := Try.underlying5
  a5 := Try.isAgg5
  z5 := Try.sizeOf5
  v5 := Try.zeroValue5
  t9 := Try.underlying9
  a9 := Try.isAgg9
  z9 := Try.sizeOf9
  v9 := Try.zeroValue9 }
open Go.RowKit in
/-- strings.IndexByte: "IndexByte returns the index of the first instance of c in s, or -1 if c is not present in s.": IT RETURNS 'Lib.indexByte s c'; the world is as it was. (LAID: no walk: one application.) -/
theorem Try.strings_IndexByte (s : ByteArray) (c : Int) (w : World) :
    Calls Try.prog 13 #[.string s, .int .u8 c] w fun e w' => e = .returned (.int .i64 (Lib.indexByte s.data.toList c.toNat.toUInt8)) ∧ w' = w := Any.strings_IndexByte Try.lays137 s c w
def Try.lays144_ren : Go.Shelf.Ren := ⟨fun | 144 => 16 | 143 => 18 | 219 => 19 | 217 => 15 | 225 => 20 | 224 => 21 | 267 => 22 | 266 => 17 | 314 => 23 | n => n, fun | 9 => 9 | 4 => 4 | 3 => 3 | 5 => 5 | 46 => 44 | 146 => 46 | 51 => 45 | n => n, fun | 1 => 0 | n => n⟩
theorem Try.lays144 : Go.Proofs.Lays.n144 Try.prog Try.lays144_ren := {
  mixed := by kernel_rfl
  f143 := Try.func18.trans (congrArg some (by kernel_rfl))
  f144 := Try.func16.trans (congrArg some (by kernel_rfl))
  f217 := Try.func15.trans (congrArg some (by kernel_rfl))
  f219 := Try.func19.trans (congrArg some (by kernel_rfl))
  f224 := Try.func21.trans (congrArg some (by kernel_rfl))
  f225 := Try.func20.trans (congrArg some (by kernel_rfl))
  f266 := Try.func17.trans (congrArg some (by kernel_rfl))
  f267 := Try.func22.trans (congrArg some (by kernel_rfl))
  f314 := Try.func23.trans (congrArg some (by kernel_rfl))
  t3 := Try.underlying3
  a3 := Try.isAgg3
  z3 := Try.sizeOf3
  v3 := Try.zeroValue3
  t4 := Try.underlying4
  a4 := Try.isAgg4
  z4 := Try.sizeOf4
  v4 := Try.zeroValue4
  t5 := Try.underlying5
  a5 := Try.isAgg5
  z5 := Try.sizeOf5
  v5 := Try.zeroValue5
  t9 := Try.underlying9
  a9 := Try.isAgg9
  z9 := Try.sizeOf9
  v9 := Try.zeroValue9
  t46 := Try.underlying44
  a46 := Try.isAgg44
  z46 := Try.sizeOf44
  v46 := Try.zeroValue44
  t51 := Try.underlying45
  a51 := Try.isAgg45
  z51 := Try.sizeOf45
  v51 := Try.zeroValue45
  t146 := Try.underlying46
  a146 := Try.isAgg46
  z146 := Try.sizeOf46
  v146 := Try.zeroValue46
  g1 := by kernel_rfl }
open Go.RowKit Go.Lib in
/-- strings.Contains: "Contains reports whether substr is within s.": AT A substr OF ONE BYTE c: IT RETURNS 'decide (0 ≤ Lib.indexByte s c)'; the world is as it was. (LAID: no walk: one application.) -/
theorem Try.strings_Contains_one (s : ByteArray) (c : UInt8) (w : World) :
    Calls Try.prog 16 #[.string s, .string ⟨#[c]⟩] w fun e w' => e = .returned (.bool (decide (0 ≤ Lib.indexByte s.data.toList c))) ∧ w' = w := Any.strings_Contains_one Try.lays144 s c w
end Go.Proofs
