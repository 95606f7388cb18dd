/-
  (time.Time).Add, and the comparisons in one number.
-/
import Derived.Test.YbulkbyaqTime
namespace Go.Proofs.Ybulkbyaq
open Go.RowKit

/-- The world behind Add: the receiver's box and the result's cell, both holding the sum. -/
def addWorld (w : World) (wall ext : Int) : World := (w.alloc (.cells #[.int .u64 wall, .int .i64 ext, .pointer none] 27)).alloc (.cells #[.int .u64 wall, .int .i64 ext, .pointer none] 27)

set_option maxHeartbeats 400000 in
theorem add_mid (wall ext d q r : Int) (w : World) (h0 : 0 ≤ wall) (h1 : wall < 1000000000) (he0 : -50000000000 ≤ ext) (he1 : ext ≤ 50000000000) (hq : d.tdiv 1000000000 = q) (hr : d.tmod 1000000000 = r)
    (hq0 : -10000000000 ≤ q) (hq1 : q ≤ 10000000000) (hr0 : -1000000000 < r) (hr1 : r < 1000000000) (c0 : 0 ≤ wall + r) (c1 : wall + r < 1000000000) :
    Calls Yba.prog 9 #[.agg #[.int .u64 wall, .int .i64 ext, .pointer none], .int .i64 d] w fun e w' => e = .returned (.agg #[.int .u64 (wall + r), .int .i64 (ext + q), .pointer none]) ∧ w' = addWorld w (wall + r) (ext + q) := by
  have hm := and_mask wall h0 h1
  have ha := andNot_mask wall h0 h1
  have hz := zero_or (wall + r) c0 c1
  have hh := and_high (wall + r) c0 c1
  have ht1 : ¬ 1000000000 ≤ wall + r := by omega
  have ht2 : ¬ wall + r < 0 := by omega
  go_enter Yba.func9, Yba.ntmps9
  go_wp2_with (first | (go_at_call 20; go_in) | fail)
  refine (addSec_any w.heap.size (wall + r) ext q _ c0 c1 (by omega) (by omega) (by omega) (by omega) (by go_simp) (by go_simp) (by go_simp)).mono ?_
  rintro e w' ⟨rfl, rfl⟩
  go_wp2
  exact bodyPost_ret (v := .agg #[.int .u64 (wall + r), .int .i64 (ext + q), .pointer none]) (by simp [results, Yba.results9, go_sem]) rfl ⟨rfl, rfl⟩

set_option maxHeartbeats 400000 in
theorem add_high (wall ext d q r : Int) (w : World) (h0 : 0 ≤ wall) (h1 : wall < 1000000000) (he0 : -50000000000 ≤ ext) (he1 : ext ≤ 50000000000) (hq : d.tdiv 1000000000 = q) (hr : d.tmod 1000000000 = r)
    (hq0 : -10000000000 ≤ q) (hq1 : q ≤ 10000000000) (hr0 : -1000000000 < r) (hr1 : r < 1000000000) (c0 : 1000000000 ≤ wall + r) :
    Calls Yba.prog 9 #[.agg #[.int .u64 wall, .int .i64 ext, .pointer none], .int .i64 d] w fun e w' => e = .returned (.agg #[.int .u64 (wall + r - 1000000000), .int .i64 (ext + (q + 1)), .pointer none]) ∧ w' = addWorld w (wall + r - 1000000000) (ext + (q + 1)) := by
  have hm := and_mask wall h0 h1
  have ha := andNot_mask wall h0 h1
  have hz := zero_or (wall + r - 1000000000) (by omega) (by omega)
  have hh := and_high (wall + r - 1000000000) (by omega) (by omega)
  go_enter Yba.func9, Yba.ntmps9
  go_wp2_with (first | (go_at_call 20; go_in) | fail)
  refine (addSec_any w.heap.size (wall + r - 1000000000) ext (q + 1) _ (by omega) (by omega) (by omega) (by omega) (by omega) (by omega) (by go_simp) (by go_simp) (by go_simp)).mono ?_
  rintro e w' ⟨rfl, rfl⟩
  go_wp2
  exact bodyPost_ret (v := .agg #[.int .u64 (wall + r - 1000000000), .int .i64 (ext + (q + 1)), .pointer none]) (by simp [results, Yba.results9, go_sem]) rfl ⟨rfl, rfl⟩

set_option maxHeartbeats 400000 in
theorem add_low (wall ext d q r : Int) (w : World) (h0 : 0 ≤ wall) (h1 : wall < 1000000000) (he0 : -50000000000 ≤ ext) (he1 : ext ≤ 50000000000) (hq : d.tdiv 1000000000 = q) (hr : d.tmod 1000000000 = r)
    (hq0 : -10000000000 ≤ q) (hq1 : q ≤ 10000000000) (hr0 : -1000000000 < r) (hr1 : r < 1000000000) (c0 : wall + r < 0) :
    Calls Yba.prog 9 #[.agg #[.int .u64 wall, .int .i64 ext, .pointer none], .int .i64 d] w fun e w' => e = .returned (.agg #[.int .u64 (wall + r + 1000000000), .int .i64 (ext + (q - 1)), .pointer none]) ∧ w' = addWorld w (wall + r + 1000000000) (ext + (q - 1)) := by
  have hm := and_mask wall h0 h1
  have ha := andNot_mask wall h0 h1
  have hz := zero_or (wall + r + 1000000000) (by omega) (by omega)
  have hh := and_high (wall + r + 1000000000) (by omega) (by omega)
  have ht1 : ¬ 1000000000 ≤ wall + r := by omega
  go_enter Yba.func9, Yba.ntmps9
  go_wp2_with (first | (go_at_call 20; go_in) | fail)
  refine (addSec_any w.heap.size (wall + r + 1000000000) ext (q - 1) _ (by omega) (by omega) (by omega) (by omega) (by omega) (by omega) (by go_simp) (by go_simp) (by go_simp)).mono ?_
  rintro e w' ⟨rfl, rfl⟩
  go_wp2
  exact bodyPost_ret (v := .agg #[.int .u64 (wall + r + 1000000000), .int .i64 (ext + (q - 1)), .pointer none]) (by simp [results, Yba.results9, go_sem]) rfl ⟨rfl, rfl⟩

theorem add_raw (wall ext d : Int) (w : World) (h0 : 0 ≤ wall) (h1 : wall < 1000000000) (he0 : -50000000000 ≤ ext) (he1 : ext ≤ 50000000000) (hd0 : -9223372036854775808 ≤ d) (hd1 : d ≤ 9223372036854775807) :
    Calls Yba.prog 9 #[.agg #[.int .u64 wall, .int .i64 ext, .pointer none], .int .i64 d] w fun e w' => e = .returned (.agg #[.int .u64 ((wall + d) % 1000000000), .int .i64 (ext + (wall + d) / 1000000000), .pointer none]) ∧
      w' = addWorld w ((wall + d) % 1000000000) (ext + (wall + d) / 1000000000) := by
  have he : d = 1000000000 * d.tdiv 1000000000 + d.tmod 1000000000 := (Int.mul_tdiv_add_tmod d 1000000000).symm
  have hb : -1000000000 < d.tmod 1000000000 ∧ d.tmod 1000000000 < 1000000000 := by
    have h1 := Int.tmod_lt_of_pos d (show (0 : Int) < 1000000000 by decide)
    have h2 := Int.lt_tmod_of_pos d (show (0 : Int) < 1000000000 by decide)
    omega
  generalize hq : d.tdiv 1000000000 = q at *
  generalize hr : d.tmod 1000000000 = r at *
  by_cases c : wall + r < 0
  · have e1 : (wall + d) % 1000000000 = wall + r + 1000000000 := by omega
    have e2 : (wall + d) / 1000000000 = q - 1 := by omega
    rw [e1, e2]
    exact add_low wall ext d q r w h0 h1 he0 he1 hq hr (by omega) (by omega) hb.1 hb.2 c
  · by_cases c2 : 1000000000 ≤ wall + r
    · have e1 : (wall + d) % 1000000000 = wall + r - 1000000000 := by omega
      have e2 : (wall + d) / 1000000000 = q + 1 := by omega
      rw [e1, e2]
      exact add_high wall ext d q r w h0 h1 he0 he1 hq hr (by omega) (by omega) hb.1 hb.2 c2
    · have e1 : (wall + d) % 1000000000 = wall + r := by omega
      have e2 : (wall + d) / 1000000000 = q := by omega
      rw [e1, e2]
      exact add_mid wall ext d q r w h0 h1 he0 he1 hq hr (by omega) (by omega) hb.1 hb.2 (by omega) (by omega)

/-! ### In one number -/
/-- The cells of the time N nanoseconds behind the zero time. -/
def tm (N : Int) : Array Value := #[.int .u64 (N % 1000000000), .int .i64 (N / 1000000000), .pointer none]
theorem tm_zero : tm 0 = #[.int .u64 0, .int .i64 0, .pointer none] := rfl
/-- The bound within which times are told here. -/
def InTime (N : Int) : Prop := -50000000000000000000 ≤ N ∧ N ≤ 50000000000000000000

theorem add_any (N d : Int) (w : World) (hN : InTime N) (hd0 : -9223372036854775808 ≤ d) (hd1 : d ≤ 9223372036854775807) :
    Calls Yba.prog 9 #[.agg (tm N), .int .i64 d] w fun e w' => e = .returned (.agg (tm (N + d))) ∧ w' = (w.alloc (.cells (tm (N + d)) 27)).alloc (.cells (tm (N + d)) 27) := by
  unfold InTime at hN
  have h := add_raw (N % 1000000000) (N / 1000000000) d w (by omega) (by omega) (by omega) (by omega) hd0 hd1
  have e1 : (N % 1000000000 + d) % 1000000000 = (N + d) % 1000000000 := by omega
  have e2 : N / 1000000000 + (N % 1000000000 + d) / 1000000000 = (N + d) / 1000000000 := by omega
  rw [e1, e2] at h
  exact h

/-- The world behind a comparison. -/
def twoBoxes (w : World) (M N : Int) : World := (w.alloc (.cells (tm M) 27)).alloc (.cells (tm N) 27)

theorem before_any (M N : Int) (w : World) :
    Calls Yba.prog 74 #[.agg (tm M), .agg (tm N)] w fun e w' => e = .returned (.bool (decide (M < N))) ∧ w' = twoBoxes w M N := by
  refine before_raw (M % 1000000000) (M / 1000000000) (N % 1000000000) (N / 1000000000) (.pointer none) (.pointer none) (decide (M < N)) w (by omega) (by omega) (by omega) (by omega) ?_
  by_cases h1 : M / 1000000000 < N / 1000000000
  · exact .inl ⟨decide_eq_true h1, decide_eq_true (by omega)⟩
  · by_cases h2 : M / 1000000000 = N / 1000000000
    · refine .inr (.inr ⟨h2, ?_⟩)
      by_cases h3 : M < N
      · rw [decide_eq_true h3, decide_eq_true (by omega)]
      · rw [decide_eq_false h3, decide_eq_false (by omega)]
    · exact .inr (.inl ⟨decide_eq_false h1, beq_eq_false_iff_ne.2 h2, decide_eq_false (by omega)⟩)

theorem after_any (M N : Int) (w : World) :
    Calls Yba.prog 10 #[.agg (tm M), .agg (tm N)] w fun e w' => e = .returned (.bool (decide (N < M))) ∧ w' = twoBoxes w M N := by
  refine after_raw (M % 1000000000) (M / 1000000000) (N % 1000000000) (N / 1000000000) (.pointer none) (.pointer none) (decide (N < M)) w (by omega) (by omega) (by omega) (by omega) ?_
  by_cases h1 : N / 1000000000 < M / 1000000000
  · exact .inl ⟨decide_eq_true h1, decide_eq_true (by omega)⟩
  · by_cases h2 : M / 1000000000 = N / 1000000000
    · refine .inr (.inr ⟨h2, ?_⟩)
      by_cases h3 : N < M
      · rw [decide_eq_true h3, decide_eq_true (by omega)]
      · rw [decide_eq_false h3, decide_eq_false (by omega)]
    · exact .inr (.inl ⟨decide_eq_false h1, beq_eq_false_iff_ne.2 h2, decide_eq_false (by omega)⟩)

theorem equal_any (M N : Int) (w : World) :
    Calls Yba.prog 12 #[.agg (tm M), .agg (tm N)] w fun e w' => e = .returned (.bool (decide (M = N))) ∧ w' = twoBoxes w M N := by
  refine equal_raw (M % 1000000000) (M / 1000000000) (N % 1000000000) (N / 1000000000) (.pointer none) (.pointer none) (decide (M = N)) w (by omega) (by omega) (by omega) (by omega) ?_
  by_cases h2 : M / 1000000000 = N / 1000000000
  · refine .inr ⟨h2, ?_⟩
    by_cases h3 : M = N
    · rw [decide_eq_true h3]
      exact (beq_iff_eq.2 (by omega)).symm
    · rw [decide_eq_false h3]
      exact (beq_eq_false_iff_ne.2 (by omega)).symm
  · exact .inl ⟨beq_eq_false_iff_ne.2 h2, decide_eq_false (by omega)⟩

theorem isZero_any (w : World) : Calls Yba.prog 80 #[.agg (tm 0)] w fun e w' => e = .returned (.bool true) ∧ w' = w.alloc (.cells (tm 0) 27) := isZero_zero (.pointer none) w
end Go.Proofs.Ybulkbyaq
