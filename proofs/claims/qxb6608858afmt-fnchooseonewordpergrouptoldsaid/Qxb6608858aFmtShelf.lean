/- The shelf's contract for strings.Contains at one byte, laid at this dump in plain words (lay-shelf.mjs, lay-plain.mjs). -/
import Derived.Shelf.Strings.Search3
import Derived.Test.Qxb6608858aFmtProg
namespace Go.Proofs
open Go.Shelf
def Tryf.lays144_ren : Go.Shelf.Ren := ⟨fun | 144 => 18 | 143 => 21 | 219 => 22 | 217 => 23 | 225 => 24 | 224 => 25 | 267 => 26 | 266 => 27 | 314 => 28 | n => n, fun | 9 => 9 | 4 => 4 | 3 => 3 | 5 => 5 | 46 => 40 | 146 => 60 | 51 => 59 | n => n, fun | 1 => 1 | n => n⟩
theorem Tryf.lays144 : Go.Proofs.Lays.n144 Tryf.prog Tryf.lays144_ren := {
  mixed := by kernel_rfl
  f143 := Tryf.func21.trans (congrArg some (by kernel_rfl))
  f144 := Tryf.func18.trans (congrArg some (by kernel_rfl))
  f217 := Tryf.func23.trans (congrArg some (by kernel_rfl))
  f219 := Tryf.func22.trans (congrArg some (by kernel_rfl))
  f224 := Tryf.func25.trans (congrArg some (by kernel_rfl))
  f225 := Tryf.func24.trans (congrArg some (by kernel_rfl))
  f266 := Tryf.func27.trans (congrArg some (by kernel_rfl))
  f267 := Tryf.func26.trans (congrArg some (by kernel_rfl))
  f314 := Tryf.func28.trans (congrArg some (by kernel_rfl))
  t3 := Tryf.underlying3
  a3 := Tryf.isAgg3
  z3 := Tryf.sizeOf3
  v3 := Tryf.zeroValue3
  t4 := Tryf.underlying4
  a4 := Tryf.isAgg4
  z4 := Tryf.sizeOf4
  v4 := Tryf.zeroValue4
  t5 := Tryf.underlying5
  a5 := Tryf.isAgg5
  z5 := Tryf.sizeOf5
  v5 := Tryf.zeroValue5
  t9 := Tryf.underlying9
  a9 := Tryf.isAgg9
  z9 := Tryf.sizeOf9
  v9 := Tryf.zeroValue9
  t46 := Tryf.underlying40
  a46 := Tryf.isAgg40
  z46 := Tryf.sizeOf40
  v46 := Tryf.zeroValue40
  t51 := Tryf.underlying59
  a51 := Tryf.isAgg59
  z51 := Tryf.sizeOf59
  v51 := Tryf.zeroValue59
  t146 := Tryf.underlying60
  a146 := Tryf.isAgg60
  z146 := Tryf.sizeOf60
  v146 := Tryf.zeroValue60
  g1 := by kernel_rfl }
open Go.RowKit Go.Lib in
/-- strings.Contains: "Contains reports whether substr is within s.": AT A substr OF ONE BYTE c: IT RETURNS 'decide (0 ≤ Lib.indexByte s c)'; the world is as it was. (LAID: no walk: one application.) -/
theorem Tryf.strings_Contains_one (s : ByteArray) (c : UInt8) (w : World) :
    Calls Tryf.prog 18 #[.string s, .string ⟨#[c]⟩] w fun e w' => e = .returned (.bool (decide (0 ≤ Lib.indexByte s.data.toList c))) ∧ w' = w := Any.strings_Contains_one Tryf.lays144 s c w
end Go.Proofs
