/-
  slices.reverseRangeOrdered at int32 (17).
-/
import Derived.Test.YbulkbycgSort0
namespace Go.Proofs.Ybulkbycg
open Go.RowKit Go.Sort

theorem reverseLoop_go {i j : Nat} (d : Array Int) (h : i < j) : reverseLoop i j d = reverseLoop (i + 1) (j - 1) (Sort.swp d i j) := by rw [reverseLoop, if_pos h]
theorem reverseLoop_end {i j : Nat} (d : Array Int) (h : ¬ i < j) : reverseLoop i j d = d := by rw [reverseLoop, if_neg h]

set_option maxRecDepth 100000 in
set_option maxHeartbeats 1000000 in
theorem rev_any (w wr : World) (B off n cap a b : Nat) (d : Array Int) (hS : SW w wr B off n d) (hab : a < b) (hb : b ≤ n) (hn : n ≤ 1024) :
    Calls Yba.prog 17 #[.slice (some ⟨B, off, none⟩) n cap, .int .i64 a, .int .i64 b] wr fun e w' => e = .returned (.tuple #[]) ∧ SW w w' B off n (reverseRange d a b) := by
  go_enter Yba.func17, Yba.ntmps17
  go_wp2
  go_loopg [6, 7] b (fun g vi vj wi => ∃ (i j : Nat) (e : Array Int), vi = .int .i64 i ∧ vj = .int .i64 j ∧ j ≤ g ∧ i ≤ j + 1 ∧ j < n ∧ SW w wi B off n e ∧ reverseLoop i j e = reverseRange d a b)
  case atStart => exact ⟨a, b - 1, d, by go_num, by go_num, by omega, by omega, by omega, hS, rfl⟩
  case round =>
    obtain ⟨i, j, e, rfl, rfl, hg, hij, hj, hSi, hE⟩ := hrel
    have HE := Lib.hid hE
    have HS := Lib.hid hSi
    obtain ⟨G, HG, hc, hf⟩ := hSi.fam
    clear hE hSi hS
    by_cases hl : i < j
    · go_wp2
      go_region
      go_wp2
      go_roundg (j - 1)
      case measure => omega
      case rel => exact ⟨i + 1, j - 1, _, by go_num, by go_num, by omega, by omega, by omega, HS.out.swpG HG 1 i j (by omega) (by omega), by rw [← HE.out, reverseLoop_go e hl]⟩
    · go_wp2
      go_end0
      exact ⟨rfl, by rw [← HE.out, reverseLoop_end e hl]; exact HS.out⟩
end Go.Proofs.Ybulkbycg
