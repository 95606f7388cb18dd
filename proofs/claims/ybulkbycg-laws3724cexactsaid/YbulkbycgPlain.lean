/-
  Plain functions of this seat: the prefix sums of the counts mod 8, the count of what was sent.
-/
namespace Go.Proofs.Ybulkbycg

/-- How many messages the first s senders have. -/
def pre (c : Nat → Nat) : Nat → Nat
  | 0 => 0
  | s + 1 => pre c s + c s % 8

theorem pre_succ (c : Nat → Nat) (s : Nat) : pre c (s + 1) = pre c s + c s % 8 := rfl
theorem pre_le (c : Nat → Nat) (s : Nat) : pre c s ≤ 7 * s := by
  induction s with
  | zero => simp [pre]
  | succ s ih => rw [pre_succ]; omega
theorem pre_mono (c : Nat → Nat) {a b : Nat} (h : a ≤ b) : pre c a ≤ pre c b := by
  induction h with
  | refl => exact Nat.le_refl _
  | step h ih => rw [pre_succ]; omega

/-- How many of the k messages from a on were sent. -/
def cnt (f : Nat → Bool) (a : Nat) : Nat → Nat
  | 0 => 0
  | k + 1 => cnt f a k + if f (a + k) then 1 else 0

theorem cnt_succ (f : Nat → Bool) (a k : Nat) : cnt f a (k + 1) = cnt f a k + if f (a + k) then 1 else 0 := rfl
theorem cnt_le (f : Nat → Bool) (a k : Nat) : cnt f a k ≤ k := by
  induction k with
  | zero => simp [cnt]
  | succ k ih => rw [cnt_succ]; split <;> omega
theorem cnt_all (a k : Nat) : cnt (fun _ => true) a k = k := by
  induction k with
  | zero => rfl
  | succ k ih => rw [cnt_succ, ih]; simp

end Go.Proofs.Ybulkbycg
