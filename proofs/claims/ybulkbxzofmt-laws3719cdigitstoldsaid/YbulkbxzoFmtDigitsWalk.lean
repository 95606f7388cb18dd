/-
  The walk of LawS3719CDigits: strconv.FormatUint in base ten, strings.Repeat, and the law.
-/
import Derived.Test.YbulkbxzoFmtPow
import Derived.Test.YbulkbxzoFmtShelf
import Derived.Lib.AppendIntMem
import Derived.Lib.ItoaMem
import Derived.Lib.Walk
import Derived.BigCall
import Derived.BigGuard
namespace Go.Proofs.YbulkbxzoFmt
open Go.Shelf Go.RowKit Go.Sort Go.Lib

theorem repeat_snoc (n : Nat) : Lib.repeatL [48] n ++ [48] = 48 :: Lib.repeatL [48] n := by
  induction n with
  | zero => rfl
  | succ n ih =>
    show ([48] ++ Lib.repeatL [48] n) ++ [48] = 48 :: ([48] ++ Lib.repeatL [48] n)
    rw [List.append_assoc, ih]
    rfl

/-- THE PLAIN LAW: ten to the n in base ten is a one and n zeros. -/
theorem digits_ten (n : Nat) : Lib.decDigits (10 ^ n) = 49 :: Lib.repeatL [48] n := by
  induction n with
  | zero => rw [Lib.decDigits]; simp; rfl
  | succ n ih =>
    have hp : 0 < 10 ^ n := Nat.pow_pos (by decide)
    rw [Lib.decDigits, dif_neg (by rw [Nat.pow_succ]; omega)]
    have e1 : 10 ^ (n + 1) / 10 = 10 ^ n := by rw [Nat.pow_succ]; omega
    have e2 : 10 ^ (n + 1) % 10 = 0 := by rw [Nat.pow_succ]; omega
    rw [e1, e2, ih]
    show 49 :: (Lib.repeatL [48] n ++ [48]) = 49 :: ([48] ++ Lib.repeatL [48] n)
    rw [repeat_snoc]
    rfl

theorem fin_zero (w : World) (o : Obj) (dk : Array UInt8) (k : Nat) : Below w.heap.size w ((putRow (fun (b : UInt8) => Value.int .u8 (b.toNat : Int)) (w.alloc o) w.heap.size 0 dk).drewN k) :=
  below_drewN (a := w) (w := putRow (fun (b : UInt8) => Value.int .u8 (b.toNat : Int)) (w.alloc o) w.heap.size 0 dk) ⟨rfl, rfl, rfl, by simp [putRow, mapBlock], fun j hj => by
    rw [← Below.heap_alloc w o j hj]
    simp [putRow, mapBlock, Array.getElem?_modify, show w.heap.size ≠ j by omega]⟩ k

set_option maxHeartbeats 1000000 in
set_option maxRecDepth 100000 in
theorem fmtuint_great (u : Nat) (hs : 100 ≤ u) (hu64 : u < 18446744073709551616) (w : World) (htab : Lib.TabIs Ybaf.prog w powName .u64 Lib.pow10Tab) :
    Calls Ybaf.prog 11 #[.int .u64 u, .int .i64 10] w fun e w' => e = .returned (.string ⟨(Lib.decDigits u).toArray⟩) ∧ Below w.heap.size w w' := by
  have hu1 : 1 ≤ u := by omega
  have hnd20 : Lib.nDigits u ≤ 20 := by have := Lib.numDigits_eq u hu1 hu64; split at this <;> omega
  have hal : Ybaf.prog.arrayLen 48 = 24 := by kernel_rfl
  have hsl1 : ∀ W, (Instr.sliceAt 48 (.pointer (some ⟨w.heap.size, 0, none⟩)) none (some (.int .i64 (Lib.nDigits u : Int))) none).run Ybaf.prog W = .ok (.slice (some ⟨w.heap.size, 0, none⟩) (Lib.nDigits u) 24) W := fun W => by
    rw [run_sliceAt_array_h W 48 ⟨w.heap.size, 0, none⟩ (by simp [Program.arrayLen, Program.elem, Ybaf.underlying48]) .i64 (Lib.nDigits u : Int) (by omega) (by rw [hal]; omega)]
    go_simp
  have hH0 := Lib.holds_zero0 w 48 (Lib.nDigits u) (by omega)
  have hfmt := Sh.internal_strconv_formatBase10 w.heap.size 0 24 u (Array.replicate (Lib.nDigits u) 0) (w.alloc (.cells Lib.zeros24 48)) hH0 (by rw [Array.size_replicate]; exact Lib.lt_pow_nDigits u) hu64 (by rw [Array.size_replicate]; omega)
  rw [Array.size_replicate] at hfmt
  have HH0 := Lib.hid hH0
  have HH1 := Lib.hid hfmt
  clear hH0 hal hfmt
  go_enter Ybaf.func11, Ybaf.ntmps11
  go_wp2_with fail
  refine (Sh.internal_strconv_numDigits u hu1 hu64 _ (Lib.tabIs_alloc htab _)).mono ?_
  rintro e w' ⟨rfl, rfl⟩
  go_wp2_with fail
  refine HH1.out.mono ?_
  rintro e w' ⟨rfl, k, v', dk, rfl, hF⟩
  have hcv : (convert 37 9 (.slice (some ⟨w.heap.size, 0, none⟩) (Lib.nDigits u) 24)).run Ybaf.prog ((putRow (fun (b : UInt8) => Value.int .u8 (b.toNat : Int)) (w.alloc (.cells Lib.zeros24 48)) w.heap.size 0 dk).drewN k) = .ok (.string ⟨(Lib.decDigits u).toArray⟩) ((putRow (fun (b : UInt8) => Value.int .u8 (b.toNat : Int)) (w.alloc (.cells Lib.zeros24 48)) w.heap.size 0 dk).drewN k) := by
    have h := run_convert_bytes_back (P := Ybaf.prog) ((putRow (fun (b : UInt8) => Value.int .u8 (b.toNat : Int)) (w.alloc (.cells Lib.zeros24 48)) w.heap.size 0 dk).drewN k) 37 9 5 ⟨w.heap.size, 0, none⟩ 24 (Lib.decDigits u) Ybaf.underlying37 Ybaf.underlying5 Ybaf.underlying9 (fun j hj => by
      rw [Lib.row_is_numeral hF j hj, Lib.add_plain, World.cell?_drewN]
      exact cell?_putRow (fun (b : UInt8) => Value.int .u8 (b.toNat : Int)) _ w.heap.size 0 _ dk HH0.out (by rw [hF.size, Array.size_replicate]) j (by rw [hF.size]; rw [Lib.decDigits_length] at hj; exact hj))
    rw [Lib.decDigits_length] at h
    exact h
  have hb := fin_zero w (.cells Lib.zeros24 48) dk k
  have HB := Lib.hid hb
  clear hb HH0 HH1 hF
  generalize (putRow (fun (b : UInt8) => Value.int .u8 (b.toNat : Int)) (w.alloc (.cells Lib.zeros24 48)) w.heap.size 0 dk).drewN k = W at *
  go_wp2
  go_ret
  exact ⟨rfl, HB.out⟩

set_option maxHeartbeats 400000 in
theorem fmtuint_small (u : Nat) (hs : u < 100) (w : World) :
    Calls Ybaf.prog 11 #[.int .u64 u, .int .i64 10] w fun e w' => e = .returned (.string ⟨(Lib.decDigits u).toArray⟩) ∧ w' = w := by
  go_enter Ybaf.func11, Ybaf.ntmps11
  go_wp2_with fail
  refine (Sh.internal_strconv_small u hs _).mono ?_
  rintro e w' ⟨rfl, rfl⟩
  go_wp2
  go_ret
  exact ⟨rfl, rfl⟩

theorem fmtuint_any (u : Nat) (hu64 : u < 18446744073709551616) (w : World) (htab : Lib.TabIs Ybaf.prog w powName .u64 Lib.pow10Tab) :
    Calls Ybaf.prog 11 #[.int .u64 u, .int .i64 10] w fun e w' => e = .returned (.string ⟨(Lib.decDigits u).toArray⟩) ∧ Below w.heap.size w w' := by
  by_cases h : u < 100
  · refine (fmtuint_small u h w).mono ?_
    rintro e w' ⟨rfl, rfl⟩
    exact ⟨rfl, Below.refl _ _⟩
  · exact fmtuint_great u (by omega) hu64 w htab

set_option maxHeartbeats 400000 in
theorem FormatUint_any (u : Nat) (hu64 : u < 18446744073709551616) (w : World) (htab : Lib.TabIs Ybaf.prog w powName .u64 Lib.pow10Tab) :
    Calls Ybaf.prog 8 #[.int .u64 u, .int .i64 10] w fun e w' => e = .returned (.string ⟨(Lib.decDigits u).toArray⟩) ∧ Below w.heap.size w w' := by
  go_enter Ybaf.func8, Ybaf.ntmps8
  go_wp2_with fail
  refine (fmtuint_any u hu64 _ htab).mono ?_
  rintro e w' ⟨rfl, hb⟩
  go_wp2
  go_ret
  exact ⟨rfl, hb⟩

theorem ten_nat (n : Nat) : ten n = ((10 ^ n : Nat) : Int) := by
  unfold ten
  rw [Int.natCast_pow]
  rfl

theorem cat_eq (l : List UInt8) : (49 :: l == (({ data := #[49] } : ByteArray) ++ ({ data := l.toArray } : ByteArray)).toList) = true := by
  rw [beq_iff_eq]
  have e : (({ data := #[49] } : ByteArray) ++ ({ data := l.toArray } : ByteArray)) = { data := (49 :: l).toArray } := by
    apply ByteArray.ext
    rw [ByteArray.data_append]
    apply Array.toList_inj.1
    simp
  rw [e]
  simp

set_option maxHeartbeats 400000 in
theorem digits_any (x : Int) (w : World) (h0 : 0 ≤ x) (h1 : x ≤ 18446744073709551615) (htab : Lib.TabIs Ybaf.prog w powName .u64 Lib.pow10Tab) :
    Calls Ybaf.prog 4 #[.int .u64 x] w fun e w' => e = .returned (.bool true) ∧ Below w.heap.size w w' := by
  obtain ⟨n, rfl⟩ := Int.eq_ofNat_of_zero_le h0
  have hk1 : 0 ≤ (n : Int) % 20 := by omega
  have hk2 : (n : Int) % 20 ≤ 19 := by omega
  go_enter Ybaf.func4, Ybaf.ntmps4
  go_wp2_with fail
  obtain ⟨m, hm⟩ := Int.eq_ofNat_of_zero_le hk1
  rw [hm] at hk2 ⊢
  clear hm hk1
  refine (pow10_any m _ (by omega)).mono ?_
  rintro e w' ⟨rfl, rfl⟩
  have hl := ten_le m (by omega)
  rw [ten_nat] at hl ⊢
  go_wp2_with fail
  refine (FormatUint_any (10 ^ m) (by omega) _ htab).mono ?_
  rintro e w1 ⟨rfl, hb1⟩
  go_wp2_with fail
  have e0 : (⟨#[48]⟩ : ByteArray).data.toList = [48] := rfl
  refine (Sh.strings_Repeat ⟨#[48]⟩ m _ (by omega) (by show 1 * m ≤ _; omega)).mono ?_
  rintro e w2 ⟨rfl, hb2⟩
  rw [e0, digits_ten]
  clear e0
  have HB := Lib.hid (hb1.trans (hb2.mono hb1.size))
  have hlen : ¬ 9223372036854775807 < 1 + (Lib.repeatL [48] m).length := by
    rw [Lib.repeatL_length]
    simp
    omega
  clear hb1 hb2 htab hl
  generalize Lib.repeatL [48] m = l at *
  have hq := cat_eq l
  go_wp2
  go_ret
  exact ⟨rfl, HB.out⟩
end Go.Proofs.YbulkbxzoFmt
