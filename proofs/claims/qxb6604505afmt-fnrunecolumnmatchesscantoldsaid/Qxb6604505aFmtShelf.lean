/-
  Two contracts of the kit's shelf laid at this program by the kit's tool (plain words): the library's decoder of one character, and its search in a sorted slice of integers.
-/
import Derived.Shelf.Unicode.DecodeAny
import Derived.Shelf.Slices.SearchI
import Derived.Test.Qxb6604505aFmtProg
namespace Go.Proofs
open Go.Shelf
def Tryf.lays197_ren : Go.Shelf.Ren := ⟨fun | 197 => 52 | 260 => 59 | n => n, fun | 9 => 9 | 21 => 21 | 3 => 3 | 4 => 4 | 5 => 5 | 105 => 95 | 119 => 103 | 0 => 0 | 46 => 98 | 139 => 106 | 138 => 105 | n => n, fun | 3 => 1 | 4 => 2 | n => n⟩
theorem Tryf.lays197 : Go.Proofs.Lays.n197 Tryf.prog Tryf.lays197_ren := {
  mixed := by kernel_rfl
  f197 := Tryf.func52.trans (congrArg some (by kernel_rfl))
  f260 := Tryf.func59.trans (congrArg some (by kernel_rfl))
  t0 := Tryf.underlying0
  a0 := Tryf.isAgg0
  z0 := Tryf.sizeOf0
  v0 := Tryf.zeroValue0
  t3 := Tryf.underlying3
  a3 := Tryf.isAgg3
  z3 := Tryf.sizeOf3
  v3 := Tryf.zeroValue3
  t4 := Tryf.underlying4
  a4 := Tryf.isAgg4
  z4 := Tryf.sizeOf4
  v4 := Tryf.zeroValue4
  t5 := Tryf.underlying5
  a5 := Tryf.isAgg5
  z5 := Tryf.sizeOf5
  v5 := Tryf.zeroValue5
  t9 := Tryf.underlying9
  a9 := Tryf.isAgg9
  z9 := Tryf.sizeOf9
  v9 := Tryf.zeroValue9
  t21 := Tryf.underlying21
  a21 := Tryf.isAgg21
  z21 := Tryf.sizeOf21
  v21 := Tryf.zeroValue21
  t46 := Tryf.underlying98
  a46 := Tryf.isAgg98
  z46 := Tryf.sizeOf98
  v46 := Tryf.zeroValue98
  t105 := Tryf.underlying95
  a105 := Tryf.isAgg95
  z105 := Tryf.sizeOf95
  v105 := Tryf.zeroValue95
  t119 := Tryf.underlying103
  a119 := Tryf.isAgg103
  z119 := Tryf.sizeOf103
  t138 := Tryf.underlying105
  a138 := Tryf.isAgg105
  z138 := Tryf.sizeOf105
  v138 := Tryf.zeroValue105
  t139 := Tryf.underlying106
  a139 := Tryf.isAgg106
  z139 := Tryf.sizeOf106
  v139 := Tryf.zeroValue106
  g3 := by kernel_rfl
  g4 := by kernel_rfl }
open Go.RowKit Go.Lib in
/-- **unicode/utf8.DecodeRuneInString AT EVERY STRING.** (LAID: no walk: one application.) -/
theorem Tryf.utf8_DecodeRuneInString (s : ByteArray) (w : World) (hT : Lib.Utf8Tabs 1 2 w) :
    Calls Tryf.prog 52 #[.string s] w fun e w' => e = .returned (.tuple #[.int .i32 (Lib.decodeGo s).1, .int .i64 (Lib.decodeGo s).2]) ∧ Below w.heap.size w w' := Any.utf8_DecodeRuneInString Tryf.lays197 s w hT
def Tryf.laysNm225_ren : Go.Shelf.Ren := ⟨fun | 25 => 47 | 31 => 54 | 32 => 55 | 37 => 60 | n => n, fun | 22 => 22 | 3 => 3 | 4 => 4 | 40 => 98 | 0 => 0 | n => n, fun | n => n⟩
theorem Tryf.laysNm225 : Go.Proofs.Lays2.n25 Tryf.prog Tryf.laysNm225_ren := {
  mixed := by kernel_rfl
  f25 := Tryf.func47.trans (congrArg some (by kernel_rfl))
  f31 := Tryf.func54.trans (congrArg some (by kernel_rfl))
  f32 := Tryf.func55.trans (congrArg some (by kernel_rfl))
  f37 := Tryf.func60.trans (congrArg some (by kernel_rfl))
  t0 := Tryf.underlying0
  a0 := Tryf.isAgg0
  z0 := Tryf.sizeOf0
  v0 := Tryf.zeroValue0
  t3 := Tryf.underlying3
  a3 := Tryf.isAgg3
  z3 := Tryf.sizeOf3
  v3 := Tryf.zeroValue3
  t4 := Tryf.underlying4
  a4 := Tryf.isAgg4
  z4 := Tryf.sizeOf4
  v4 := Tryf.zeroValue4
  t22 := Tryf.underlying22
  a22 := Tryf.isAgg22
  z22 := Tryf.sizeOf22
  v22 := Tryf.zeroValue22
  t40 := Tryf.underlying98
  a40 := Tryf.isAgg98
  z40 := Tryf.sizeOf98
  v40 := Tryf.zeroValue98 }
open Go.RowKit Go.Lib in
/-- slices.BinarySearch at []int: "BinarySearch searches for target in a sorted slice and returns the earliest position where target is found, or the position where target would appear in the sort order; it also returns a bool saying whether the target is really found in the slice. The slice must be sorted in increasing order.": OF A SORTED SLICE IT RETURNS how many elements are less than the target, and whether the target is among the elements; the world is as it was but for the count of draws. 'zs': what the cells behind the slice's address hold; 'zs.take n': its elements. (Of a slice that is not sorted: no contract here.) (LAID: no walk: one application.) -/
theorem Tryf.slices_BinarySearch_int (b off n c : Nat) (zs : List Int) (x : Int) (w : World) (hz : n ≤ zs.length) (hbig : n < 4611686018427387904) (hc : ∀ j, j < zs.length → w.cell? ⟨b, off + j, none⟩ = some (.int .i64 (zs.getD j 0))) (hs : (zs.take n).Pairwise (· ≤ ·)) :
    Calls Tryf.prog 47 #[.slice (some ⟨b, off, none⟩) n c, .int .i64 x] w fun e w' => e = .returned (.tuple #[.int .i64 ((zs.take n).countP (· < x) : Nat), .bool ((zs.take n).contains x)]) ∧ ∃ q, w' = w.drewN q := Any.slices_BinarySearch_int Tryf.laysNm225 b off n c zs x w hz hbig hc hs
end Go.Proofs
