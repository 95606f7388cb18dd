/-
  The library's contracts that this road wants, laid at this program: internal strconv small, numDigits, formatBase10; strings.Repeat. By the kit's own tools (lay-shelf, lay-plain), cut to what is used.
-/
import Derived.Test.YbulkbxzoFmtRows
import Derived.Shelf.Strconv.Itoa1
import Derived.Shelf.LaysM
import Derived.Shelf.Strconv.Itoa2
import Derived.Shelf.Strings.Repeat
namespace Go.Proofs.YbulkbxzoFmt
open Go.Shelf

/-- The name of the table of the powers of ten, as the given row lists it. -/
def powName : String := match Rows.lawS3719CDigitsRow.laid with
  | [_, _, x] => x.1
  | _ => ""

def Sh.lays283_ren : Go.Shelf.Ren := ⟨fun | 283 => 18 | n => n, fun | 3 => 3 | 9 => 9 | 4 => 4 | n => n, fun | n => n⟩

theorem Sh.lays283 : Go.Proofs.Lays.n283 Ybaf.prog Sh.lays283_ren := {
  mixed := by kernel_rfl
  f283 := Ybaf.func18.trans (congrArg some (by kernel_rfl))
  t3 := Ybaf.underlying3
  a3 := Ybaf.isAgg3
  z3 := Ybaf.sizeOf3
  v3 := Ybaf.zeroValue3
  t4 := Ybaf.underlying4
  a4 := Ybaf.isAgg4
  z4 := Ybaf.sizeOf4
  v4 := Ybaf.zeroValue4
  t9 := Ybaf.underlying9
  a9 := Ybaf.isAgg9
  z9 := Ybaf.sizeOf9
  v9 := Ybaf.zeroValue9 }

open Go.RowKit Go.Sort Go.Lib in
theorem Sh.internal_strconv_small (i : Nat) (h : i < 100) (w : World) :
    Calls Ybaf.prog 18 #[.int .i64 i] w fun e w' => e = .returned (.string ⟨(Lib.decDigits i).toArray⟩) ∧ w' = w := Any.internal_strconv_small Sh.lays283 i h w

def Sh.laysM284_ren : Go.Shelf.Ren := ⟨fun | 284 => 19 | 129 => 28 | 317 => 27 | 318 => 29 | n => n, fun | 53 => 22 | 3 => 3 | 212 => 31 | 0 => 0 | 4 => 4 | 46 => 32 | 5 => 5 | 9 => 9 | n => n, fun | 17 => 0 | n => n⟩

theorem Sh.laysM284 : Go.Proofs.LaysM.n284 Ybaf.prog Sh.laysM284_ren := {
  mixed := by kernel_rfl
  f129 := Ybaf.func28.trans (congrArg some (by kernel_rfl))
  f284 := Ybaf.func19.trans (congrArg some (by kernel_rfl))
  f317 := Ybaf.func27.trans (congrArg some (by kernel_rfl))
  f318 := Ybaf.func29.trans (congrArg some (by kernel_rfl))
  t0 := Ybaf.underlying0
  a0 := Ybaf.isAgg0
  z0 := Ybaf.sizeOf0
  v0 := Ybaf.zeroValue0
  t3 := Ybaf.underlying3
  a3 := Ybaf.isAgg3
  z3 := Ybaf.sizeOf3
  v3 := Ybaf.zeroValue3
  t4 := Ybaf.underlying4
  a4 := Ybaf.isAgg4
  z4 := Ybaf.sizeOf4
  v4 := Ybaf.zeroValue4
  t5 := Ybaf.underlying5
  a5 := Ybaf.isAgg5
  z5 := Ybaf.sizeOf5
  v5 := Ybaf.zeroValue5
  t9 := Ybaf.underlying9
  a9 := Ybaf.isAgg9
  z9 := Ybaf.sizeOf9
  v9 := Ybaf.zeroValue9
  t46 := Ybaf.underlying32
  a46 := Ybaf.isAgg32
  z46 := Ybaf.sizeOf32
  v46 := Ybaf.zeroValue32
  t53 := Ybaf.underlying22
  a53 := Ybaf.isAgg22
  z53 := Ybaf.sizeOf22
  v53 := Ybaf.zeroValue22
  t212 := Ybaf.underlying31
  a212 := Ybaf.isAgg31
  z212 := Ybaf.sizeOf31
  v212 := Ybaf.zeroValue31
  g17 := by kernel_rfl
  i0 := by kernel_rfl
  i3 := by kernel_rfl
  i4 := by kernel_rfl
  i5 := by kernel_rfl
  i9 := by kernel_rfl
  i46 := by kernel_rfl
  i53 := by kernel_rfl
  i212 := by kernel_rfl
  m17 := by kernel_rfl }

open Go.RowKit Go.Sort Go.Lib in
theorem Sh.internal_strconv_numDigits (u : Nat) (h1 : 1 ≤ u) (h2 : u < 18446744073709551616) (w : World) (htab : Lib.TabIs Ybaf.prog w powName .u64 Lib.pow10Tab) :
    Calls Ybaf.prog 19 #[.int .u64 u] w fun e w' => e = .returned (.int .i64 (Lib.nDigits u)) ∧ w' = w := Any.internal_strconv_numDigits Sh.laysM284 u h1 h2 w htab

def Sh.lays285_ren : Go.Shelf.Ren := ⟨fun | 285 => 20 | n => n, fun | 37 => 37 | 53 => 22 | 3 => 3 | 4 => 4 | 51 => 53 | 9 => 9 | 5 => 5 | 0 => 0 | n => n, fun | n => n⟩

theorem Sh.lays285 : Go.Proofs.Lays.n285 Ybaf.prog Sh.lays285_ren := {
  mixed := by kernel_rfl
  f285 := Ybaf.func20.trans (congrArg some (by kernel_rfl))
  t0 := Ybaf.underlying0
  a0 := Ybaf.isAgg0
  z0 := Ybaf.sizeOf0
  v0 := Ybaf.zeroValue0
  t3 := Ybaf.underlying3
  a3 := Ybaf.isAgg3
  z3 := Ybaf.sizeOf3
  v3 := Ybaf.zeroValue3
  t4 := Ybaf.underlying4
  a4 := Ybaf.isAgg4
  z4 := Ybaf.sizeOf4
  v4 := Ybaf.zeroValue4
  t5 := Ybaf.underlying5
  a5 := Ybaf.isAgg5
  z5 := Ybaf.sizeOf5
  v5 := Ybaf.zeroValue5
  t9 := Ybaf.underlying9
  a9 := Ybaf.isAgg9
  z9 := Ybaf.sizeOf9
  v9 := Ybaf.zeroValue9
  t37 := Ybaf.underlying37
  a37 := Ybaf.isAgg37
  z37 := Ybaf.sizeOf37
  v37 := Ybaf.zeroValue37
  t51 := Ybaf.underlying53
  a51 := Ybaf.isAgg53
  z51 := Ybaf.sizeOf53
  v51 := Ybaf.zeroValue53
  t53 := Ybaf.underlying22
  a53 := Ybaf.isAgg22
  z53 := Ybaf.sizeOf22
  v53 := Ybaf.zeroValue22 }

open Go.RowKit Go.Sort Go.Lib in
theorem Sh.internal_strconv_formatBase10 (blk off cap : Nat) (u : Nat) (d : Array UInt8) (w : World) (hH : Holds (fun (b : UInt8) => Value.int .u8 (b.toNat : Int)) w blk off d) (hu : u < 10 ^ d.size) (hu64 : u < 18446744073709551616) (hsz : d.size < 4611686018427387904) :
    Calls Ybaf.prog 20 #[.slice (some ⟨blk, off, none⟩) d.size cap, .int .u64 u] w fun e w' =>
      e = .returned (.tuple #[]) ∧ ∃ (n v' : Nat) (dk : Array UInt8), w' = (putRow (fun (b : UInt8) => Value.int .u8 (b.toNat : Int)) w blk off dk).drewN n ∧ FmtInv d.size u 0 v' dk := Any.internal_strconv_formatBase10 Sh.lays285 blk off cap u d w hH hu hu64 hsz

def Sh.lays105_ren : Go.Shelf.Ren := ⟨fun | 105 => 9 | 212 => 12 | 99 => 13 | 165 => 14 | 166 => 15 | 170 => 16 | 169 => 17 | 263 => 22 | 264 => 23 | 206 => 24 | 240 => 25 | 241 => 26 | 276 => 32 | 277 => 33 | n => n, fun | 9 => 9 | 3 => 3 | 4 => 4 | 20 => 20 | 0 => 0 | 46 => 32 | 109 => 33 | 5 => 5 | 72 => 39 | 76 => 43 | 51 => 53 | 146 => 54 | 53 => 22 | 148 => 56 | 70 => 36 | 37 => 37 | 75 => 42 | 127 => 58 | 164 => 64 | 80 => 46 | n => n, fun | n => n⟩

theorem Sh.lays105 : Go.Proofs.Lays.n105 Ybaf.prog Sh.lays105_ren := {
  mixed := by kernel_rfl
  f99 := Ybaf.func13.trans (congrArg some (by kernel_rfl))
  f105 := Ybaf.func9.trans (congrArg some (by kernel_rfl))
  f165 := Ybaf.func14.trans (congrArg some (by kernel_rfl))
  f166 := Ybaf.func15.trans (congrArg some (by kernel_rfl))
  f169 := Ybaf.func17.trans (congrArg some (by kernel_rfl))
  f170 := Ybaf.func16.trans (congrArg some (by kernel_rfl))
  f206 := Ybaf.func24.trans (congrArg some (by kernel_rfl))
  f212 := Ybaf.func12.trans (congrArg some (by kernel_rfl))
  f240 := Ybaf.func25.trans (congrArg some (by kernel_rfl))
  f241 := Ybaf.func26.trans (congrArg some (by kernel_rfl))
  f263 := Ybaf.func22.trans (congrArg some (by kernel_rfl))
  f264 := Ybaf.func23.trans (congrArg some (by kernel_rfl))
  f276 := Ybaf.func32.trans (congrArg some (by kernel_rfl))
  f277 := Ybaf.func33.trans (congrArg some (by kernel_rfl))
  t0 := Ybaf.underlying0
  a0 := Ybaf.isAgg0
  z0 := Ybaf.sizeOf0
  v0 := Ybaf.zeroValue0
  t3 := Ybaf.underlying3
  a3 := Ybaf.isAgg3
  z3 := Ybaf.sizeOf3
  v3 := Ybaf.zeroValue3
  t4 := Ybaf.underlying4
  a4 := Ybaf.isAgg4
  z4 := Ybaf.sizeOf4
  v4 := Ybaf.zeroValue4
  t5 := Ybaf.underlying5
  a5 := Ybaf.isAgg5
  z5 := Ybaf.sizeOf5
  v5 := Ybaf.zeroValue5
  t9 := Ybaf.underlying9
  a9 := Ybaf.isAgg9
  z9 := Ybaf.sizeOf9
  v9 := Ybaf.zeroValue9
  t20 := Ybaf.underlying20
  a20 := Ybaf.isAgg20
  z20 := Ybaf.sizeOf20
  v20 := Ybaf.zeroValue20
  t37 := Ybaf.underlying37
  a37 := Ybaf.isAgg37
  z37 := Ybaf.sizeOf37
  v37 := Ybaf.zeroValue37
  t46 := Ybaf.underlying32
  a46 := Ybaf.isAgg32
  z46 := Ybaf.sizeOf32
  v46 := Ybaf.zeroValue32
  t51 := Ybaf.underlying53
  a51 := Ybaf.isAgg53
  z51 := Ybaf.sizeOf53
  v51 := Ybaf.zeroValue53
  t53 := Ybaf.underlying22
  a53 := Ybaf.isAgg22
  z53 := Ybaf.sizeOf22
  v53 := Ybaf.zeroValue22
  t70 := Ybaf.underlying36
  a70 := Ybaf.isAgg36
  z70 := Ybaf.sizeOf36
  v70 := Ybaf.zeroValue36
  t72 := Ybaf.underlying39
  a72 := Ybaf.isAgg39
  z72 := Ybaf.sizeOf39
  v72 := Ybaf.zeroValue39
  t75 := Ybaf.underlying42
  a75 := Ybaf.isAgg42
  z75 := Ybaf.sizeOf42
  v75 := Ybaf.zeroValue42
  t76 := Ybaf.underlying43
  a76 := Ybaf.isAgg43
  z76 := Ybaf.sizeOf43
  v76 := Ybaf.zeroValue43
  t109 := Ybaf.underlying33
  a109 := Ybaf.isAgg33
  z109 := Ybaf.sizeOf33
  v109 := Ybaf.zeroValue33
  t127 := Ybaf.underlying58
  a127 := Ybaf.isAgg58
  z127 := Ybaf.sizeOf58
  v127 := Ybaf.zeroValue58
  t146 := Ybaf.underlying54
  a146 := Ybaf.isAgg54
  z146 := Ybaf.sizeOf54
  v146 := Ybaf.zeroValue54
  t148 := Ybaf.underlying56
  a148 := Ybaf.isAgg56
  z148 := Ybaf.sizeOf56
  v148 := Ybaf.zeroValue56
  t164 := Ybaf.underlying64
  a164 := Ybaf.isAgg64
  z164 := Ybaf.sizeOf64
  v164 := Ybaf.zeroValue64 }

theorem Sh.Builder_Extra_105 : Builder.Extra Ybaf.prog Sh.lays105_ren := {
  sizeBuilder := by kernel_rfl
  liesBuilder := by kernel_rfl
  t5 := Ybaf.underlying5
  a5 := Ybaf.isAgg5
  z5 := Ybaf.sizeOf5
  v5 := Ybaf.zeroValue5
  infoByte := by kernel_rfl
  cellsByte := by kernel_rfl
  sizeByte := by kernel_rfl
  neB5 := by decide }

open Go.RowKit Go.Sort Go.Lib in
theorem Sh.strings_Repeat (s : ByteArray) (c : Nat) (w : World) (hc : c ≤ 9223372036854775807) (hlen : s.size * c ≤ 140737488355328) :
    Calls Ybaf.prog 9 #[.string s, .int .i64 c] w fun e w' => e = .returned (.string ⟨(Lib.repeatL s.data.toList c).toArray⟩) ∧ Below w.heap.size w w' := Any.strings_Repeat Sh.lays105 Sh.Builder_Extra_105 s c w hc hlen

end Go.Proofs.YbulkbxzoFmt
