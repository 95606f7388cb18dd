/-
  math/bits.Len at this program: the shelf's contract, laid by the kit's own tools (lay-shelf, lay-plain), cut to what is used.
-/
import Derived.Shelf.Small.Bits
import Derived.Shelf.Strconv.Itoa0
import Derived.Test.YbulkbycgProg
namespace Go.Proofs.Ybulkbycg
open Go.Shelf
def Sh.lays125_ren : Go.Shelf.Ren := ⟨fun | 125 => 11 | 128 => 22 | 129 => 23 | n => n, fun | 46 => 40 | 3 => 3 | 51 => 52 | 53 => 54 | 4 => 4 | 5 => 5 | 9 => 9 | n => n, fun | n => n⟩
theorem Sh.lays125 : Go.Proofs.Lays.n125 Yba.prog Sh.lays125_ren := {
  mixed := by kernel_rfl
  f125 := Yba.func11.trans (congrArg some (by kernel_rfl))
  f128 := Yba.func22.trans (congrArg some (by kernel_rfl))
  f129 := Yba.func23.trans (congrArg some (by kernel_rfl))
  t3 := Yba.underlying3
  a3 := Yba.isAgg3
  z3 := Yba.sizeOf3
  v3 := Yba.zeroValue3
  t4 := Yba.underlying4
  a4 := Yba.isAgg4
  z4 := Yba.sizeOf4
  v4 := Yba.zeroValue4
  t5 := Yba.underlying5
  a5 := Yba.isAgg5
  z5 := Yba.sizeOf5
  v5 := Yba.zeroValue5
  t9 := Yba.underlying9
  a9 := Yba.isAgg9
  z9 := Yba.sizeOf9
  v9 := Yba.zeroValue9
  t46 := Yba.underlying40
  a46 := Yba.isAgg40
  z46 := Yba.sizeOf40
  v46 := Yba.zeroValue40
  t51 := Yba.underlying52
  a51 := Yba.isAgg52
  z51 := Yba.sizeOf52
  v51 := Yba.zeroValue52
  t53 := Yba.underlying54
  a53 := Yba.isAgg54
  z53 := Yba.sizeOf54
  v53 := Yba.zeroValue54 }
theorem Sh.bits_Len (x : Int) (w : World) (h0 : 0 ≤ x) (h1 : x ≤ 18446744073709551615) :
    Calls Yba.prog 11 #[.int .u64 x] w fun e w' => e = .returned (.int .i64 (Lib.bitLen x.toNat)) ∧ w' = w := Any.bits_Len Sh.lays125 x w h0 h1
end Go.Proofs.Ybulkbycg
