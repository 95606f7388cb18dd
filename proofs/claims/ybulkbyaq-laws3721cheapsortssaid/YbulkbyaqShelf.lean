/-
  The library's contracts that this road wants, laid at this program: slices.Clone and slices.Sort at int64. By the kit's own tools (lay-shelf, lay-plain), cut to what is used.
-/
import Derived.Test.YbulkbyaqProg
import Derived.Shelf.SlicesG.Clone
import Derived.Shelf.SortM.Plain
import Derived.Shelf.SortM.SortNone
namespace Go.Proofs.Ybulkbyaq
open Go.Shelf

def Sh.laysSlN41_f15_ren : Go.Shelf.Ren := ⟨fun | 41 => 15 | n => n, fun | 22 => 75 | 23 => 2 | 4 => 4 | n => n, fun | n => n⟩

theorem Sh.laysSlN41_f15 : Go.Proofs.SlLaysN.n41 Yba.prog Sh.laysSlN41_f15_ren := {
  mixed := by kernel_rfl
  f41 := ⟨Yba.f15.name, by decide, Yba.func15.trans (congrArg some (by kernel_rfl))⟩
  t4 := Yba.underlying4
  a4 := Yba.isAgg4
  z4 := Yba.sizeOf4
  v4 := Yba.zeroValue4
  t22 := Yba.underlying75
  a22 := Yba.isAgg75
  z22 := Yba.sizeOf75
  v22 := Yba.zeroValue75
  t23 := Yba.underlying2
  a23 := Yba.isAgg2
  z23 := Yba.sizeOf2
  v23 := Yba.zeroValue2
  i23 := by kernel_rfl }

open Go.RowKit Go.Sort Go.Lib in
theorem Sh.slices_Clone_int (b off n c : Nat) (zs : List Int) (w : World) (hz : n ≤ zs.length) (hbig : n * 8 ≤ 140737488355328) (hc : ∀ j, j < zs.length → w.cell? ⟨b, off + j, none⟩ = some (.int .i64 (zs.getD j 0))) :
    Calls Yba.prog 15 #[.slice (some ⟨b, off, none⟩) n c] w fun e w' => ∃ v', e = .returned v' ∧ w'.ownsRow w.heap.size 2 1 v' n ((zs.take n).map (Value.int .i64)) ∧ v' ≠ .slice none 0 0 ∧ Below w.heap.size w w' := AnyG.slices_Clone_int Sh.laysSlN41_f15 b off n c zs w hz hbig hc

open Go.RowKit Go.Sort Go.Lib in
theorem Sh.slices_Clone_int_nil (n c : Nat) (w : World) :
    Calls Yba.prog 15 #[.slice none n c] w fun e w' => e = .returned (.slice none 0 0) ∧ w' = w := AnyG.slices_Clone_int_nil Sh.laysSlN41_f15 n c w

open Go.RowKit Go.Sort Go.Lib in
theorem Sh.slices_Clone_int_zero (a : Addr) (c : Nat) (w : World) :
    Calls Yba.prog 15 #[.slice (some a) 0 c] w fun e w' => ∃ v', e = .returned v' ∧ w'.ownsRow w.heap.size 2 1 v' 0 [] ∧ v' ≠ .slice none 0 0 ∧ Below w.heap.size w w' := AnyG.slices_Clone_int_zero Sh.laysSlN41_f15 a c w

def Sh.laysSlM5_f16_ren : Go.Shelf.Ren := ⟨fun | 5 => 16 | 8 => 30 | 7 => 29 | 19 => 43 | 20 => 44 | 10 => 34 | 11 => 35 | 12 => 36 | 13 => 37 | 14 => 38 | 15 => 39 | 16 => 40 | 17 => 41 | 18 => 42 | 30 => 45 | 31 => 46 | 32 => 47 | 33 => 48 | 34 => 49 | 35 => 50 | 40 => 51 | n => n, fun | 23 => 75 | 25 => 2 | 3 => 3 | 32 => 100 | 22 => 75 | 0 => 0 | 44 => 115 | 46 => 24 | 4 => 4 | 36 => 107 | 35 => 106 | 41 => 112 | 5 => 5 | 9 => 9 | 53 => 119 | 57 => 123 | 63 => 126 | 64 => 127 | n => n, fun | n => n⟩

theorem Sh.laysSlM5_f16 : Go.Proofs.SlLaysM.n5 Yba.prog Sh.laysSlM5_f16_ren := {
  mixed := by kernel_rfl
  f5 := ⟨Yba.f16.name, by decide, Yba.func16.trans (congrArg some (by kernel_rfl))⟩
  f7 := ⟨Yba.f29.name, by decide, Yba.func29.trans (congrArg some (by kernel_rfl))⟩
  f8 := Yba.func30.trans (congrArg some (by kernel_rfl))
  f10 := ⟨Yba.f34.name, by decide, Yba.func34.trans (congrArg some (by kernel_rfl))⟩
  f11 := ⟨Yba.f35.name, by decide, Yba.func35.trans (congrArg some (by kernel_rfl))⟩
  f12 := ⟨Yba.f36.name, by decide, Yba.func36.trans (congrArg some (by kernel_rfl))⟩
  f13 := ⟨Yba.f37.name, by decide, Yba.func37.trans (congrArg some (by kernel_rfl))⟩
  f14 := ⟨Yba.f38.name, by decide, Yba.func38.trans (congrArg some (by kernel_rfl))⟩
  f15 := ⟨Yba.f39.name, by decide, Yba.func39.trans (congrArg some (by kernel_rfl))⟩
  f16 := ⟨Yba.f40.name, by decide, Yba.func40.trans (congrArg some (by kernel_rfl))⟩
  f17 := ⟨Yba.f41.name, by decide, Yba.func41.trans (congrArg some (by kernel_rfl))⟩
  f18 := ⟨Yba.f42.name, by decide, Yba.func42.trans (congrArg some (by kernel_rfl))⟩
  f19 := Yba.func43.trans (congrArg some (by kernel_rfl))
  f20 := Yba.func44.trans (congrArg some (by kernel_rfl))
  f30 := ⟨Yba.f45.name, by decide, Yba.func45.trans (congrArg some (by kernel_rfl))⟩
  f31 := Yba.func46.trans (congrArg some (by kernel_rfl))
  f32 := Yba.func47.trans (congrArg some (by kernel_rfl))
  f33 := ⟨Yba.f48.name, by decide, Yba.func48.trans (congrArg some (by kernel_rfl))⟩
  f34 := ⟨Yba.f49.name, by decide, Yba.func49.trans (congrArg some (by kernel_rfl))⟩
  f35 := ⟨Yba.f50.name, by decide, Yba.func50.trans (congrArg some (by kernel_rfl))⟩
  f40 := ⟨Yba.f51.name, by decide, Yba.func51.trans (congrArg some (by kernel_rfl))⟩
  t0 := Yba.underlying0
  a0 := Yba.isAgg0
  z0 := Yba.sizeOf0
  v0 := Yba.zeroValue0
  t3 := Yba.underlying3
  a3 := Yba.isAgg3
  z3 := Yba.sizeOf3
  v3 := Yba.zeroValue3
  t4 := Yba.underlying4
  a4 := Yba.isAgg4
  z4 := Yba.sizeOf4
  v4 := Yba.zeroValue4
  t5 := Yba.underlying5
  a5 := Yba.isAgg5
  z5 := Yba.sizeOf5
  v5 := Yba.zeroValue5
  t9 := Yba.underlying9
  a9 := Yba.isAgg9
  z9 := Yba.sizeOf9
  v9 := Yba.zeroValue9
  t22 := Yba.underlying75
  a22 := Yba.isAgg75
  z22 := Yba.sizeOf75
  v22 := Yba.zeroValue75
  t23 := Yba.underlying75
  a23 := Yba.isAgg75
  z23 := Yba.sizeOf75
  v23 := Yba.zeroValue75
  t25 := Yba.underlying2
  a25 := Yba.isAgg2
  z25 := Yba.sizeOf2
  v25 := Yba.zeroValue2
  t32 := Yba.underlying100
  a32 := Yba.isAgg100
  z32 := Yba.sizeOf100
  v32 := Yba.zeroValue100
  t35 := Yba.underlying106
  a35 := Yba.isAgg106
  z35 := Yba.sizeOf106
  v35 := Yba.zeroValue106
  t36 := Yba.underlying107
  a36 := Yba.isAgg107
  z36 := Yba.sizeOf107
  v36 := Yba.zeroValue107
  t41 := Yba.underlying112
  a41 := Yba.isAgg112
  z41 := Yba.sizeOf112
  v41 := Yba.zeroValue112
  t44 := Yba.underlying115
  a44 := Yba.isAgg115
  z44 := Yba.sizeOf115
  v44 := Yba.zeroValue115
  t46 := Yba.underlying24
  a46 := Yba.isAgg24
  z46 := Yba.sizeOf24
  v46 := Yba.zeroValue24
  t53 := Yba.underlying119
  a53 := Yba.isAgg119
  z53 := Yba.sizeOf119
  v53 := Yba.zeroValue119
  t57 := Yba.underlying123
  a57 := Yba.isAgg123
  z57 := Yba.sizeOf123
  v57 := Yba.zeroValue123
  t63 := Yba.underlying126
  a63 := Yba.isAgg126
  z63 := Yba.sizeOf126
  v63 := Yba.zeroValue126
  t64 := Yba.underlying127
  a64 := Yba.isAgg127
  z64 := Yba.sizeOf127
  v64 := Yba.zeroValue127 }

open Go.RowKit Go.Sort Go.Lib in
theorem Sh.slices_Sort_int (blk off cap : Nat) (zs : List Int) (w : World) (hH : Holds (Value.int .i64) w blk off zs.toArray) (hblk : blk < w.heap.size) (hsz : zs.length < 4611686018427387904) :
    Calls Yba.prog 16 #[.slice (some ⟨blk, off, none⟩) zs.length cap] w fun e w' =>
      e = .returned (.tuple #[]) ∧ ∃ n os, w' = grow (putRow (Value.int .i64) (Sort.ahead w n) blk off (zs.mergeSort fun x y => decide (x ≤ y)).toArray) os := AnyM.slices_Sort_int Sh.laysSlM5_f16 blk off cap zs w hH hblk hsz

open Go.RowKit Go.Sort Go.Lib in
theorem Sh.slices_Sort_int_none (p : Option Addr) (cap : Nat) (w : World) :
    Calls Yba.prog 16 #[.slice p 0 cap] w fun e w' => e = .returned (.tuple #[]) ∧ w' = w := AnyM.slices_Sort_int_none Sh.laysSlM5_f16 p cap w

end Go.Proofs.Ybulkbyaq
