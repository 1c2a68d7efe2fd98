/-
  The shelf's contracts of encoding/binary at this program, laid by the kit's own tool in plain words.
-/
import Derived.Shelf.Bin.AppendUvarint
import Derived.Shelf.Bin.AppendVarint
import Derived.Test.YbulkfpwProg
namespace Go.Proofs
open Go.Shelf
def Yba.laysBin47_ren : Go.Shelf.Ren := ⟨fun | 47 => 15 | n => n, fun | 22 => 40 | 33 => 22 | 4 => 4 | 5 => 5 | 45 => 50 | n => n, fun | n => n⟩
theorem Yba.laysBin47 : Go.Proofs.LaysBin.n47 Yba.prog Yba.laysBin47_ren := {
  mixed := by kernel_rfl
  f47 := Yba.func15.trans (congrArg some (by kernel_rfl))
  t4 := Yba.underlying4
  a4 := Yba.isAgg4
  z4 := Yba.sizeOf4
  v4 := Yba.zeroValue4
  i4 := by kernel_rfl
  t5 := Yba.underlying5
  a5 := Yba.isAgg5
  z5 := Yba.sizeOf5
  v5 := Yba.zeroValue5
  i5 := by kernel_rfl
  t22 := Yba.underlying40
  a22 := Yba.isAgg40
  z22 := Yba.sizeOf40
  v22 := Yba.zeroValue40
  i22 := by kernel_rfl
  t33 := Yba.underlying22
  a33 := Yba.isAgg22
  z33 := Yba.sizeOf22
  v33 := Yba.zeroValue22
  i33 := by kernel_rfl
  t45 := Yba.underlying50
  a45 := Yba.isAgg50
  z45 := Yba.sizeOf50
  v45 := Yba.zeroValue50
  i45 := by kernel_rfl }
open Go.RowKit in
theorem Yba.binary_AppendUvarint (B n x : Nat) (hx : x < 18446744073709551616) (sv : Value) (xs : List Value) (w : World) (hown : w.ownsRow B 5 1 sv n xs) (hBw : B ≤ w.heap.size) (hlim : n + 10 ≤ 140737488355328) :
    Calls Yba.prog 15 #[sv, .int .u64 x] w fun e w' => ∃ v', e = .returned v' ∧ w'.ownsRow B 5 1 v' (n + (Lib.uvarint x).length) (xs ++ Lib.byteCells (Lib.uvarint x)) ∧ Below B w w' := Any.binary_AppendUvarint Yba.laysBin47 B n x hx sv xs w hown hBw hlim
def Yba.laysBin50_ren : Go.Shelf.Ren := ⟨fun | 50 => 13 | 47 => 15 | n => n, fun | 22 => 40 | 2 => 2 | 33 => 22 | 45 => 50 | 4 => 4 | 5 => 5 | n => n, fun | n => n⟩
theorem Yba.laysBin50 : Go.Proofs.LaysBin.n50 Yba.prog Yba.laysBin50_ren := {
  mixed := by kernel_rfl
  f47 := Yba.func15.trans (congrArg some (by kernel_rfl))
  f50 := Yba.func13.trans (congrArg some (by kernel_rfl))
  t2 := Yba.underlying2
  a2 := Yba.isAgg2
  z2 := Yba.sizeOf2
  v2 := Yba.zeroValue2
  i2 := by kernel_rfl
  t4 := Yba.underlying4
  a4 := Yba.isAgg4
  z4 := Yba.sizeOf4
  v4 := Yba.zeroValue4
  i4 := by kernel_rfl
  t5 := Yba.underlying5
  a5 := Yba.isAgg5
  z5 := Yba.sizeOf5
  v5 := Yba.zeroValue5
  i5 := by kernel_rfl
  t22 := Yba.underlying40
  a22 := Yba.isAgg40
  z22 := Yba.sizeOf40
  v22 := Yba.zeroValue40
  i22 := by kernel_rfl
  t33 := Yba.underlying22
  a33 := Yba.isAgg22
  z33 := Yba.sizeOf22
  v33 := Yba.zeroValue22
  i33 := by kernel_rfl
  t45 := Yba.underlying50
  a45 := Yba.isAgg50
  z45 := Yba.sizeOf50
  v45 := Yba.zeroValue50
  i45 := by kernel_rfl }
open Go.RowKit in
theorem Yba.binary_AppendVarint (B n : Nat) (x : Int) (h0 : -9223372036854775808 ≤ x) (h1 : x ≤ 9223372036854775807) (sv : Value) (xs : List Value) (w : World) (hown : w.ownsRow B 5 1 sv n xs) (hBw : B ≤ w.heap.size) (hlim : n + 10 ≤ 140737488355328) :
    Calls Yba.prog 13 #[sv, .int .i64 x] w fun e w' => ∃ v', e = .returned v' ∧ w'.ownsRow B 5 1 v' (n + (Lib.uvarint (Lib.zigzag x)).length) (xs ++ Lib.byteCells (Lib.uvarint (Lib.zigzag x))) ∧ Below B w w' := Any.binary_AppendVarint Yba.laysBin50 B n x h0 h1 sv xs w hown hBw hlim
end Go.Proofs
