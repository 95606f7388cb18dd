/-
  The walk of 'decimal.pow10': for n from 0 to 19 it hands back ten to the n, and the world is as it was.
-/
import Derived.Test.YbulkbxzoFmtProg
import Derived.WalkKit
import Derived.WalkSpells
import Derived.WalkLawsBesides
namespace Go.Proofs.YbulkbxzoFmt
open Go.RowKit

/-- ten to the k, as a number of the model's. -/
def ten (k : Nat) : Int := 10 ^ k
theorem ten_zero : ten 0 = 1 := rfl
theorem ten_succ (k : Nat) : ten (k + 1) = ten k * 10 := by unfold ten; rw [Int.pow_succ]
theorem ten_pos (k : Nat) : 1 ≤ ten k := by
  unfold ten
  have : (0 : Int) < 10 ^ k := Int.pow_pos (by decide)
  omega
theorem ten_mono (a b : Nat) (h : a ≤ b) : ten a ≤ ten b := by
  induction h with
  | refl => exact Int.le_refl _
  | step h ih => rename_i m; rw [ten_succ]; have := ten_pos m; omega
theorem ten_le (k : Nat) (h : k ≤ 19) : ten k ≤ 10000000000000000000 := by
  have := ten_mono k 19 h
  have e : ten 19 = 10000000000000000000 := by decide +kernel
  omega

theorem ret_int {k : IntKind} {a b : Int} (h : a = b) : Ending.returned (.int k a) = .returned (.int k b) := by rw [h]
theorem val_int {k : IntKind} {a b : Int} (h : a = b) : Value.int k a = .int k b := by rw [h]

set_option maxHeartbeats 400000 in
theorem pow10_any (n : Nat) (w : World) (hn : n ≤ 19) :
    Calls Ybaf.prog 6 #[.int .i64 n] w fun e w' => e = .returned (.int .u64 (ten n)) ∧ w' = w := by
  have h0 : ¬ ((n : Int) < 0) := by omega
  have h19 : ¬ (19 < (n : Int)) := by omega
  go_enter Ybaf.func6, Ybaf.ntmps6
  go_wp2
  go_loop [3, 17] (fun p i => ∃ k : Nat, k ≤ n ∧ i = .int .i64 k ∧ p = .int .u64 (ten k)) (fun _ i => n - (intOf i).toNat)
  case atStart => exact ⟨0, Nat.zero_le _, rfl, rfl⟩
  case round =>
    obtain ⟨k, hk, rfl, rfl⟩ := hrel
    by_cases hlt : k < n
    · have hp := ten_pos k
      have hl := ten_le (k + 1) (by omega)
      rw [ten_succ] at hl
      go_wp2
      go_round
      case rel => exact ⟨k + 1, by omega, by go_num, val_int (by rw [ten_succ])⟩
      case measure => simp [intOf]; omega
    · go_wp2
      go_ret
      have : k = n := by omega
      subst this
      exact ⟨rfl, rfl⟩

/-- The same, its argument a plain integer. -/
theorem pow10_int (n : Int) (w : World) (h0 : 0 ≤ n) (hn : n ≤ 19) :
    Calls Ybaf.prog 6 #[.int .i64 n] w fun e w' => e = .returned (.int .u64 (ten n.toNat)) ∧ w' = w := by
  obtain ⟨k, rfl⟩ := Int.eq_ofNat_of_zero_le h0
  exact pow10_any k w (by omega)
end Go.Proofs.YbulkbxzoFmt
