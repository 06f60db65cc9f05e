/- The shelf's contract for internal/stringslite.Index at one byte, laid at this dump in plain words (lay-shelf.mjs, lay-plain.mjs). -/
import Derived.Shelf.Strings.Search2
import Derived.Test.Qxb6606306aRRProg
namespace Go.Proofs
open Go.Shelf
def Try.lays219_ren : Go.Shelf.Ren := ⟨fun | 219 => 45 | 217 => 46 | 225 => 47 | 224 => 48 | 267 => 49 | 266 => 50 | 314 => 51 | n => n, fun | 9 => 9 | 3 => 3 | 4 => 4 | 5 => 5 | 46 => 92 | 146 => 94 | 51 => 93 | n => n, fun | 1 => 0 | n => n⟩
theorem Try.lays219 : Go.Proofs.Lays.n219 Try.prog Try.lays219_ren := {
  mixed := by kernel_rfl
  f217 := Try.func46.trans (congrArg some (by kernel_rfl))
  f219 := Try.func45.trans (congrArg some (by kernel_rfl))
  f224 := Try.func48.trans (congrArg some (by kernel_rfl))
  f225 := Try.func47.trans (congrArg some (by kernel_rfl))
  f266 := Try.func50.trans (congrArg some (by kernel_rfl))
  f267 := Try.func49.trans (congrArg some (by kernel_rfl))
  f314 := Try.func51.trans (congrArg some (by kernel_rfl))
  t3 := Try.underlying3
  a3 := Try.isAgg3
  z3 := Try.sizeOf3
  v3 := Try.zeroValue3
  t4 := Try.underlying4
  a4 := Try.isAgg4
  z4 := Try.sizeOf4
  v4 := Try.zeroValue4
  t5 := Try.underlying5
  a5 := Try.isAgg5
  z5 := Try.sizeOf5
  v5 := Try.zeroValue5
  t9 := Try.underlying9
  a9 := Try.isAgg9
  z9 := Try.sizeOf9
  v9 := Try.zeroValue9
  t46 := Try.underlying92
  a46 := Try.isAgg92
  z46 := Try.sizeOf92
  v46 := Try.zeroValue92
  t51 := Try.underlying93
  a51 := Try.isAgg93
  z51 := Try.sizeOf93
  v51 := Try.zeroValue93
  t146 := Try.underlying94
  a146 := Try.isAgg94
  z146 := Try.sizeOf94
  v146 := Try.zeroValue94
  g1 := by kernel_rfl }
open Go.RowKit Go.Lib in
/-- internal/stringslite.Index (what strings.Index calls) AT A substr OF ONE BYTE c: IT RETURNS 'Lib.indexByte s c'; the world is as it was. (LAID: no walk: one application.) -/
theorem Try.stringslite_Index_one (s : ByteArray) (c : UInt8) (w : World) :
    Calls Try.prog 45 #[.string s, .string ⟨#[c]⟩] w fun e w' => e = .returned (.int .i64 (Lib.indexByte s.data.toList c)) ∧ w' = w := Any.stringslite_Index_one Try.lays219 s c w
end Go.Proofs
