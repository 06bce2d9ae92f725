/-
  The library's strings.Index at a separator of one byte, at this program: the shelf's contract, laid by the kit's tool for this dump (plain words).
-/
import Derived.Shelf.Strings.Search3
import Derived.Test.Qxb6604198aDoorProg
namespace Go.Proofs
open Go.Shelf
def Tryd.lays143_ren : Go.Shelf.Ren := ⟨fun | 143 => 11 | 219 => 13 | 217 => 14 | 225 => 15 | 224 => 16 | 267 => 17 | 266 => 18 | 314 => 19 | n => n, fun | 9 => 9 | 3 => 3 | 4 => 4 | 5 => 5 | 46 => 32 | 146 => 39 | 51 => 38 | n => n, fun | 1 => 2 | n => n⟩
theorem Tryd.lays143 : Go.Proofs.Lays.n143 Tryd.prog Tryd.lays143_ren := {
  mixed := by kernel_rfl
  f143 := Tryd.func11.trans (congrArg some (by kernel_rfl))
  f217 := Tryd.func14.trans (congrArg some (by kernel_rfl))
  f219 := Tryd.func13.trans (congrArg some (by kernel_rfl))
  f224 := Tryd.func16.trans (congrArg some (by kernel_rfl))
  f225 := Tryd.func15.trans (congrArg some (by kernel_rfl))
  f266 := Tryd.func18.trans (congrArg some (by kernel_rfl))
  f267 := Tryd.func17.trans (congrArg some (by kernel_rfl))
  f314 := Tryd.func19.trans (congrArg some (by kernel_rfl))
  t3 := Tryd.underlying3
  a3 := Tryd.isAgg3
  z3 := Tryd.sizeOf3
  v3 := Tryd.zeroValue3
  t4 := Tryd.underlying4
  a4 := Tryd.isAgg4
  z4 := Tryd.sizeOf4
  v4 := Tryd.zeroValue4
  t5 := Tryd.underlying5
  a5 := Tryd.isAgg5
  z5 := Tryd.sizeOf5
  v5 := Tryd.zeroValue5
  t9 := Tryd.underlying9
  a9 := Tryd.isAgg9
  z9 := Tryd.sizeOf9
  v9 := Tryd.zeroValue9
  t46 := Tryd.underlying32
  a46 := Tryd.isAgg32
  z46 := Tryd.sizeOf32
  v46 := Tryd.zeroValue32
  t51 := Tryd.underlying38
  a51 := Tryd.isAgg38
  z51 := Tryd.sizeOf38
  v51 := Tryd.zeroValue38
  t146 := Tryd.underlying39
  a146 := Tryd.isAgg39
  z146 := Tryd.sizeOf39
  v146 := Tryd.zeroValue39
  g1 := by kernel_rfl }
open Go.RowKit Go.Lib in
/-- strings.Index: "Index returns the index of the first instance of substr in s, or -1 if substr is not present in s.": AT A substr OF ONE BYTE c: IT RETURNS 'Lib.indexByte s c'; the world is as it was. (LAID: no walk: one application.) -/
theorem Tryd.strings_Index_one (s : ByteArray) (c : UInt8) (w : World) :
    Calls Tryd.prog 11 #[.string s, .string ⟨#[c]⟩] w fun e w' => e = .returned (.int .i64 (Lib.indexByte s.data.toList c)) ∧ w' = w := Any.strings_Index_one Tryd.lays143 s c w
end Go.Proofs
