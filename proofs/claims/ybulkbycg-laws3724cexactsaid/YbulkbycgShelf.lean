/-
  math/bits.Len, (*slices.xorshift).Next and slices.nextPowerOfTwo at this program: the shelf's contracts, laid by the kit's own tools (lay-shelf, lay-plain), cut to what is used.
-/
import Derived.Shelf.Small.Bits
import Derived.Shelf.Strconv.Itoa0
import Derived.Shelf.SlSortCmp.Xorshift
import Derived.Test.YbulkbycgProg
namespace Go.Proofs.Ybulkbycg
open Go.Shelf
def Sh.lays125_ren : Go.Shelf.Ren := ⟨fun | 125 => 11 | 128 => 22 | 129 => 23 | n => n, fun | 46 => 40 | 3 => 3 | 51 => 52 | 53 => 54 | 4 => 4 | 5 => 5 | 9 => 9 | n => n, fun | n => n⟩
theorem Sh.lays125 : Go.Proofs.Lays.n125 Yba.prog Sh.lays125_ren := {
  mixed := by kernel_rfl
  f125 := Yba.func11.trans (congrArg some (by kernel_rfl))
  f128 := Yba.func22.trans (congrArg some (by kernel_rfl))
  f129 := Yba.func23.trans (congrArg some (by kernel_rfl))
  t3 := Yba.underlying3
  a3 := Yba.isAgg3
  z3 := Yba.sizeOf3
  v3 := Yba.zeroValue3
  t4 := Yba.underlying4
  a4 := Yba.isAgg4
  z4 := Yba.sizeOf4
  v4 := Yba.zeroValue4
  t5 := Yba.underlying5
  a5 := Yba.isAgg5
  z5 := Yba.sizeOf5
  v5 := Yba.zeroValue5
  t9 := Yba.underlying9
  a9 := Yba.isAgg9
  z9 := Yba.sizeOf9
  v9 := Yba.zeroValue9
  t46 := Yba.underlying40
  a46 := Yba.isAgg40
  z46 := Yba.sizeOf40
  v46 := Yba.zeroValue40
  t51 := Yba.underlying52
  a51 := Yba.isAgg52
  z51 := Yba.sizeOf52
  v51 := Yba.zeroValue52
  t53 := Yba.underlying54
  a53 := Yba.isAgg54
  z53 := Yba.sizeOf54
  v53 := Yba.zeroValue54 }
theorem Sh.bits_Len (x : Int) (w : World) (h0 : 0 ≤ x) (h1 : x ≤ 18446744073709551615) :
    Calls Yba.prog 11 #[.int .u64 x] w fun e w' => e = .returned (.int .i64 (Lib.bitLen x.toNat)) ∧ w' = w := Any.bits_Len Sh.lays125 x w h0 h1
def Sh.lays48_ren : Go.Shelf.Ren := ⟨fun | 48 => 27 | n => n, fun | 76 => 62 | 55 => 54 | 0 => 0 | 66 => 56 | 39 => 40 | n => n, fun | n => n⟩
theorem Sh.lays48 : Go.Proofs.SlLaysF0.n48 Yba.prog Sh.lays48_ren := {
  mixed := by kernel_rfl
  f48 := Yba.func27.trans (congrArg some (by kernel_rfl))
  t0 := Yba.underlying0
  a0 := Yba.isAgg0
  z0 := Yba.sizeOf0
  v0 := Yba.zeroValue0
  t39 := Yba.underlying40
  a39 := Yba.isAgg40
  z39 := Yba.sizeOf40
  v39 := Yba.zeroValue40
  t55 := Yba.underlying54
  a55 := Yba.isAgg54
  z55 := Yba.sizeOf54
  v55 := Yba.zeroValue54
  t66 := Yba.underlying56
  a66 := Yba.isAgg56
  z66 := Yba.sizeOf56
  v66 := Yba.zeroValue56
  t76 := Yba.underlying62
  a76 := Yba.isAgg62
  z76 := Yba.sizeOf62
  v76 := Yba.zeroValue62 }
def Sh.lays47_ren : Go.Shelf.Ren := ⟨fun | 47 => 26 | 15 => 11 | 28 => 22 | 29 => 23 | n => n, fun | 3 => 3 | 39 => 40 | 53 => 52 | 55 => 54 | 4 => 4 | 5 => 5 | 9 => 9 | n => n, fun | n => n⟩
theorem Sh.lays47 : Go.Proofs.SlLaysF0.n47 Yba.prog Sh.lays47_ren := {
  mixed := by kernel_rfl
  f15 := Yba.func11.trans (congrArg some (by kernel_rfl))
  f28 := Yba.func22.trans (congrArg some (by kernel_rfl))
  f29 := Yba.func23.trans (congrArg some (by kernel_rfl))
  f47 := Yba.func26.trans (congrArg some (by kernel_rfl))
  t3 := Yba.underlying3
  a3 := Yba.isAgg3
  z3 := Yba.sizeOf3
  v3 := Yba.zeroValue3
  t4 := Yba.underlying4
  a4 := Yba.isAgg4
  z4 := Yba.sizeOf4
  v4 := Yba.zeroValue4
  t5 := Yba.underlying5
  a5 := Yba.isAgg5
  z5 := Yba.sizeOf5
  v5 := Yba.zeroValue5
  t9 := Yba.underlying9
  a9 := Yba.isAgg9
  z9 := Yba.sizeOf9
  v9 := Yba.zeroValue9
  t39 := Yba.underlying40
  a39 := Yba.isAgg40
  z39 := Yba.sizeOf40
  v39 := Yba.zeroValue40
  t53 := Yba.underlying52
  a53 := Yba.isAgg52
  z53 := Yba.sizeOf52
  v53 := Yba.zeroValue52
  t55 := Yba.underlying54
  a55 := Yba.isAgg54
  z55 := Yba.sizeOf54
  v55 := Yba.zeroValue54 }
theorem Sh.xorNext (rb ro X : Nat) (hX : X < 18446744073709551616) (w : World) (hc : w.cell? ⟨rb, ro, none⟩ = some (.int .u64 X)) (hf : w.frozen? ⟨rb, ro, none⟩ = false) :
    Calls Yba.prog 27 #[.pointer (some ⟨rb, ro, none⟩)] w fun e w' => e = .returned (.int .u64 (Go.Sort.xorNextN X : Nat)) ∧ w' = (w.setCell ⟨rb, ro, none⟩ (.int .u64 (Go.Sort.xorNextN X : Nat))).drewN 3 := AnyF.xorshift_Next Sh.lays48 rb ro X hX w hc hf
theorem Sh.nextPow (n : Nat) (hn : n < 4611686018427387904) (w : World) :
    Calls Yba.prog 26 #[.int .i64 n] w fun e w' => e = .returned (.int .u64 ((1 <<< Go.Sort.bitsLen n : Nat) : Int)) ∧ w' = w := AnyF.nextPowerOfTwo Sh.lays47 n hn w
end Go.Proofs.Ybulkbycg
