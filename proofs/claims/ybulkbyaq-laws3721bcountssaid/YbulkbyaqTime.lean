/-
  The walks of package time that this seat's roads come to. A time without a clock reading is told by ONE number N: its nanoseconds since the zero time; its cells are N mod 10^9, N div 10^9 and a nil location.
-/
import Derived.Test.YbulkbyaqProg
import Derived.WalkKit
import Derived.WalkSpells
import Derived.WalkLawsBesides
import Derived.Lib.Hide
namespace Go.Proofs.Ybulkbyaq
open Go.RowKit

/-! ### Bits of a word below 2^30 -/
theorem and_mask (x : Int) (h0 : 0 ≤ x) (h1 : x < 1000000000) : bits .and .u64 x 1073741823 = x := by
  rw [u64_and x 1073741823 h0 (by omega) (by omega) (by omega)]
  have e : x.toNat &&& (1073741823 : Int).toNat = x.toNat % 2 ^ 30 := Nat.and_two_pow_sub_one_eq_mod x.toNat 30
  rw [e, Nat.mod_eq_of_lt (by omega)]
  omega

theorem nat_and_high (x : Nat) (h : x < 1000000000) : x &&& 9223372036854775808 = 0 := by
  have := nat_bit 63 x
  rw [show (2 : Nat) ^ 63 = 9223372036854775808 from rfl] at this
  rw [this]
  have : x / 9223372036854775808 = 0 := Nat.div_eq_of_lt (by omega)
  rw [this]

theorem and_high (x : Int) (h0 : 0 ≤ x) (h1 : x < 1000000000) : (bits .and .u64 x 9223372036854775808 != 0) = false := by
  rw [u64_and x 9223372036854775808 h0 (by omega) (by omega) (by omega)]
  have e : x.toNat &&& (9223372036854775808 : Int).toNat = 0 := nat_and_high x.toNat (by omega)
  rw [e]
  rfl

theorem and_both (x y : Int) (h0 : 0 ≤ x) (h1 : x < 1000000000) (g0 : 0 ≤ y) (g1 : y < 1000000000) : (bits .and .u64 (bits .and .u64 x y) 9223372036854775808 != 0) = false := by
  have e : bits .and .u64 x y = ((x.toNat &&& y.toNat : Nat) : Int) := u64_and x y h0 (by omega) g0 (by omega)
  have hl : x.toNat &&& y.toNat ≤ x.toNat := Nat.and_le_left
  exact and_high _ (by rw [e]; omega) (by rw [e]; omega)

theorem andNot_mask (x : Int) (h0 : 0 ≤ x) (h1 : x < 1000000000) : bits .andNot .u64 x 1073741823 = 0 := by
  rw [u64_andNot x 1073741823 h0 (by omega) (by omega) (by omega)]
  have e : x.toNat &&& (18446744073709551615 - (1073741823 : Int).toNat) = 0 := by
    apply Nat.eq_of_testBit_eq
    intro i
    rw [Nat.testBit_and, Nat.zero_testBit]
    by_cases hi : i < 30
    · have e2 : 18446744073709551615 - (1073741823 : Int).toNat = 17179869183 <<< 30 := by decide +kernel
      rw [e2, Nat.testBit_shiftLeft]
      simp
      omega
    · have : x.toNat < 2 ^ i := Nat.lt_of_lt_of_le (show x.toNat < 2 ^ 30 by omega) (Nat.pow_le_pow_right (by omega) (by omega))
      rw [Nat.testBit_lt_two_pow this]
      rfl
  rw [e]
  rfl

theorem zero_or (x : Int) (h0 : 0 ≤ x) (h1 : x < 1000000000) : bits .or .u64 0 x = x := by
  rw [u64_or 0 x (by omega) (by omega) h0 (by omega)]
  have e : (0 : Int).toNat ||| x.toNat = x.toNat := Nat.zero_or _
  rw [e]
  omega

/-! ### The readers -/
set_option maxHeartbeats 400000 in
theorem nsec_any (b off : Nat) (wall : Int) (w : World) (h0 : 0 ≤ wall) (h1 : wall < 1000000000)
    (hc : w.cell? ⟨b, off, none⟩ = some (.int .u64 wall)) :
    Calls Yba.prog 20 #[.pointer (some ⟨b, off, none⟩)] w fun e w' => e = .returned (.int .i32 wall) ∧ w' = w := by
  have hm := and_mask wall h0 h1
  go_enter Yba.func20, Yba.ntmps20
  go_wp2
  go_ret
  exact ⟨rfl, rfl⟩

set_option maxHeartbeats 400000 in
theorem sec_any (b off : Nat) (wall ext : Int) (w : World) (h0 : 0 ≤ wall) (h1 : wall < 1000000000)
    (hc : w.cell? ⟨b, off, none⟩ = some (.int .u64 wall)) (hx : w.cell? ⟨b, off + 1, none⟩ = some (.int .i64 ext)) :
    Calls Yba.prog 23 #[.pointer (some ⟨b, off, none⟩)] w fun e w' => e = .returned (.int .i64 ext) ∧ w' = w := by
  have hm := and_high wall h0 h1
  go_enter Yba.func23, Yba.ntmps23
  go_wp2
  go_ret
  exact ⟨rfl, rfl⟩

/-! ### Comparisons -/
/-- The world behind a comparison: its two arguments, boxed. -/
def cmpWorld (w : World) (w1 e1 : Int) (p1 : Value) (w2 e2 : Int) (p2 : Value) : World := (w.alloc (.cells #[.int .u64 w1, .int .i64 e1, p1] 27)).alloc (.cells #[.int .u64 w2, .int .i64 e2, p2] 27)

set_option maxHeartbeats 400000 in
theorem before_raw (w1 e1 w2 e2 : Int) (p1 p2 : Value) (ans : Bool) (w : World) (h0 : 0 ≤ w1) (h1 : w1 < 1000000000) (g0 : 0 ≤ w2) (g1 : w2 < 1000000000)
    (hans : (decide (e1 < e2) = true ∧ ans = true) ∨ (decide (e1 < e2) = false ∧ (e1 == e2) = false ∧ ans = false) ∨ (e1 = e2 ∧ ans = decide (w1 < w2))) :
    Calls Yba.prog 74 #[.agg #[.int .u64 w1, .int .i64 e1, p1], .agg #[.int .u64 w2, .int .i64 e2, p2]] w fun e w' => e = .returned (.bool ans) ∧ w' = cmpWorld w w1 e1 p1 w2 e2 p2 := by
  have hb := and_both w1 w2 h0 h1 g0 g1
  have m1 := and_high w1 h0 h1
  have m2 := and_high w2 g0 g1
  have k1 := and_mask w1 h0 h1
  have k2 := and_mask w2 g0 g1
  rcases hans with ⟨hc, rfl⟩ | ⟨hc, hd, rfl⟩ | ⟨rfl, rfl⟩
  all_goals
    go_enter Yba.func74, Yba.ntmps74
    go_wp2
    go_ret
    exact ⟨rfl, rfl⟩

set_option maxHeartbeats 400000 in
theorem after_raw (w1 e1 w2 e2 : Int) (p1 p2 : Value) (ans : Bool) (w : World) (h0 : 0 ≤ w1) (h1 : w1 < 1000000000) (g0 : 0 ≤ w2) (g1 : w2 < 1000000000)
    (hans : (decide (e2 < e1) = true ∧ ans = true) ∨ (decide (e2 < e1) = false ∧ (e1 == e2) = false ∧ ans = false) ∨ (e1 = e2 ∧ ans = decide (w2 < w1))) :
    Calls Yba.prog 10 #[.agg #[.int .u64 w1, .int .i64 e1, p1], .agg #[.int .u64 w2, .int .i64 e2, p2]] w fun e w' => e = .returned (.bool ans) ∧ w' = cmpWorld w w1 e1 p1 w2 e2 p2 := by
  have hb := and_both w1 w2 h0 h1 g0 g1
  have m1 := and_high w1 h0 h1
  have m2 := and_high w2 g0 g1
  have k1 := and_mask w1 h0 h1
  have k2 := and_mask w2 g0 g1
  rcases hans with ⟨hc, rfl⟩ | ⟨hc, hd, rfl⟩ | ⟨rfl, rfl⟩
  all_goals
    go_enter Yba.func10, Yba.ntmps10
    go_wp2
    go_ret
    exact ⟨rfl, rfl⟩

set_option maxHeartbeats 400000 in
theorem equal_raw (w1 e1 w2 e2 : Int) (p1 p2 : Value) (ans : Bool) (w : World) (h0 : 0 ≤ w1) (h1 : w1 < 1000000000) (g0 : 0 ≤ w2) (g1 : w2 < 1000000000)
    (hans : ((e1 == e2) = false ∧ ans = false) ∨ (e1 = e2 ∧ ans = (w1 == w2))) :
    Calls Yba.prog 12 #[.agg #[.int .u64 w1, .int .i64 e1, p1], .agg #[.int .u64 w2, .int .i64 e2, p2]] w fun e w' => e = .returned (.bool ans) ∧ w' = cmpWorld w w1 e1 p1 w2 e2 p2 := by
  have hb := and_both w1 w2 h0 h1 g0 g1
  have m1 := and_high w1 h0 h1
  have m2 := and_high w2 g0 g1
  have k1 := and_mask w1 h0 h1
  have k2 := and_mask w2 g0 g1
  rcases hans with ⟨hc, rfl⟩ | ⟨rfl, rfl⟩
  all_goals
    go_enter Yba.func12, Yba.ntmps12
    go_wp2
    go_ret
    exact ⟨rfl, rfl⟩

set_option maxHeartbeats 400000 in
theorem isZero_zero (p : Value) (w : World) :
    Calls Yba.prog 80 #[.agg #[.int .u64 0, .int .i64 0, p]] w fun e w' => e = .returned (.bool true) ∧ w' = w.alloc (.cells #[.int .u64 0, .int .i64 0, p] 27) := by
  go_enter Yba.func80, Yba.ntmps80
  go_wp2
  go_ret
  exact ⟨rfl, rfl⟩

/-! ### addSec, Add -/
set_option maxHeartbeats 400000 in
theorem addSec_any (b : Nat) (wall ext d : Int) (w : World) (h0 : 0 ≤ wall) (h1 : wall < 1000000000) (he0 : -100000000000 ≤ ext) (he1 : ext ≤ 100000000000) (hd0 : -100000000000 ≤ d) (hd1 : d ≤ 100000000000)
    (hc : w.cell? ⟨b, 0, none⟩ = some (.int .u64 wall)) (hx : w.cell? ⟨b, 1, none⟩ = some (.int .i64 ext)) (hf : w.frozen? ⟨b, 1, none⟩ = false) :
    Calls Yba.prog 21 #[.pointer (some ⟨b, 0, none⟩), .int .i64 d] w fun e w' => e = .returned (.tuple #[]) ∧ w' = w.setCell ⟨b, 1, none⟩ (.int .i64 (ext + d)) := by
  have hm := and_high wall h0 h1
  by_cases hd : 0 < d
  · have h2 : ext < ext + d := by omega
    go_enter Yba.func21, Yba.ntmps21
    go_wp2
    go_end0
    exact ⟨rfl, rfl⟩
  · have h2 : ¬ (ext < ext + d) := by omega
    go_enter Yba.func21, Yba.ntmps21
    go_wp2
    go_end0
    exact ⟨rfl, rfl⟩
end Go.Proofs.Ybulkbyaq
