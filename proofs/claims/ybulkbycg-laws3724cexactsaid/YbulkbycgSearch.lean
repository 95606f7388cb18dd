/-
  slices.Sort and slices.BinarySearch at int32 (8, 12).
-/
import Derived.Test.YbulkbycgPdq
namespace Go.Proofs.Ybulkbycg
open Go.RowKit Go.Sort

set_option maxRecDepth 100000 in
set_option maxHeartbeats 1000000 in
theorem sort_any (w wr : World) (B off n cap : Nat) (d : Array Int) (hS : SW w wr B off n d) (hn : n ≤ 1024) :
    Calls Yba.prog 8 #[.slice (some ⟨B, off, none⟩) n cap] wr fun e w' => e = .returned (.tuple #[]) ∧ ∃ R, SW w w' B off n R ∧ PermIn 0 n d R ∧ SortedIn ltInt 0 n R := by
  have hLen : Calls Yba.prog 11 #[.int .u64 (n : Int)] wr fun e w' => e = .returned (.int .i64 (bitsLen n : Nat)) ∧ w' = wr := by
    have h := Sh.bits_Len (n : Int) wr (by omega) (by omega)
    rwa [Int.toNat_natCast, bitLen_eq _ (by omega)] at h
  have hk : bitsLen n ≤ 62 := (bitsLen_le_iff n 62).2 (by omega)
  have hP := pdq_any (n + 1) w wr B off n cap 0 n (bitsLen n) d (by omega) hS (by omega) (by omega) hn (by omega) (Or.inl rfl)
  have HP := Lib.hid hP
  have HL := Lib.hid hLen
  clear hP hLen hS
  go_enter Yba.func8, Yba.ntmps8
  go_wp2_with (first | (go_at_call 11; refine HL.out.mono ?_; rintro e w' ⟨rfl, rfl⟩) | fail)
  refine HP.out.mono ?_
  rintro e w1 ⟨rfl, h1⟩
  have H1 := Lib.hid h1
  clear h1 HP HL
  go_wp2
  go_end0
  exact ⟨rfl, H1.out⟩

/-- What binary search says of a row that is in order. -/
theorem bs_end (G : Nat → Int) (n i : Nat) (t : Int) (_hi : i ≤ n) (hs : ∀ x y, x ≤ y → y < n → G x ≤ G y) (h1 : ∀ x, x < i → G x < t) (h2 : ∀ x, i ≤ x → x < n → t ≤ G x) :
    (i < n ∧ G i = t) ↔ ∃ x, x < n ∧ G x = t := by
  constructor
  · rintro ⟨h, e⟩; exact ⟨i, h, e⟩
  · rintro ⟨x, hx, e⟩
    by_cases hxi : x < i
    · have := h1 x hxi; omega
    · have a1 := h2 i (Nat.le_refl _) (by omega)
      have a2 := hs i x (by omega) hx
      exact ⟨by omega, by omega⟩

set_option maxRecDepth 100000 in
set_option maxHeartbeats 1000000 in
theorem bsearch_any (wr : World) (B off n cap : Nat) (G : Nat → Int) (t : Int) (r : Bool) (hc : ∀ x, x < n → wr.cell? ⟨B, off + x, none⟩ = some (.int .i32 (G x))) (hs : ∀ x y, x ≤ y → y < n → G x ≤ G y) (hn : n ≤ 1024) (hr : r = true ↔ ∃ x, x < n ∧ G x = t) :
    Calls Yba.prog 12 #[.slice (some ⟨B, off, none⟩) n cap, .int .i32 t] wr fun e w' => ∃ i : Nat, e = .returned (.tuple #[.int .i64 i, .bool r]) ∧ ∃ q, w' = wr.drewN q := by
  have HS := Lib.hid hs
  have HR := Lib.hid hr
  clear hs hr
  go_enter Yba.func12, Yba.ntmps12
  go_wp2
  go_loopg [7, 8] n (fun g vi vj wi => ∃ (i j : Nat), vi = .int .i64 i ∧ vj = .int .i64 j ∧ j - i ≤ g ∧ i ≤ j ∧ j ≤ n ∧ (∀ x, x < i → G x < t) ∧ (∀ x, j ≤ x → x < n → t ≤ G x) ∧ ∃ q, wi = wr.drewN q)
  case atStart => exact ⟨0, n, rfl, rfl, by omega, by omega, by omega, fun x hx => absurd hx (Nat.not_lt_zero _), fun x h1 h2 => by omega, 0, rfl⟩
  case round =>
    obtain ⟨i, j, rfl, rfl, hg, hij, hjn, h1, h2, q, hw⟩ := hrel
    have hcw : ∀ x, x < n → wr.cell? ⟨B, off + x, none⟩ = some (.int .i32 (G x)) := by rw [hw]; exact hc
    have HW := Lib.hid hw
    have H1 := Lib.hid h1
    have H2 := Lib.hid h2
    clear hw h1 h2 hc
    by_cases hlt : i < j
    · obtain ⟨m, hm⟩ : ∃ m, (i + j) / 2 = m := ⟨_, rfl⟩
      have hmz : ((i : Int) + (j : Int)) / 2 = (m : Int) := by omega
      have hm1 : i ≤ m := by omega
      have hm2 : m < j := by omega
      clear hm
      go_wp2_with (first | (go_at_call 19; refine (less_any _ _ _).mono ?_; rintro e w' ⟨rfl, rfl⟩))
      · have hl : ltInt (G m) t = true := by assumption
        go_roundg (j - (m + 1))
        case measure => omega
        case rel =>
          refine ⟨m + 1, j, by go_num, rfl, by omega, by omega, hjn, fun x hx => ?_, H2.out, q, HW.out⟩
          have a1 := HS.out x m (by omega) (by omega)
          have a2 : G m < t := by simpa [ltInt] using hl
          omega
      · have hl : ltInt (G m) t = false := by assumption
        go_roundg (m - i)
        case measure => omega
        case rel =>
          refine ⟨i, m, rfl, rfl, by omega, by omega, by omega, H1.out, fun x hx hxn => ?_, q, HW.out⟩
          have a1 := HS.out m x hx hxn
          have a2 : ¬ G m < t := by simpa [ltInt] using hl
          omega
    · obtain rfl : i = j := by omega
      have hE := bs_end G n i t hjn HS.out H1.out H2.out
      have hr2 : r = decide (i < n ∧ G i = t) := by
        cases r
        · exact (decide_eq_false fun h => Bool.false_ne_true (HR.out.2 (hE.1 h))).symm
        · exact (decide_eq_true (hE.2 (HR.out.1 rfl))).symm
      have HR2 := Lib.hid hr2
      clear hE hr2
      by_cases hin : i < n
      · by_cases hG : G i = t
        · go_wp2_with (first | (go_at_call 24; refine (sisNaN_any _ _).mono ?_; rintro e w' ⟨rfl, rfl⟩))
          go_ret2
          refine ⟨i, ?_, q, HW.out⟩
          rw [HR2.out, decide_eq_true ⟨hin, hG⟩]
          rfl
        · go_wp2_with (first | (go_at_call 24; refine (sisNaN_any _ _).mono ?_; rintro e w' ⟨rfl, rfl⟩))
          go_ret2
          refine ⟨i, ?_, q, HW.out⟩
          rw [HR2.out, decide_eq_false fun h => hG h.2]
          show Ending.returned (.tuple #[.int .i64 i, .bool (G i == t)]) = _
          rw [beq_eq_false_iff_ne.2 hG]
      · go_wp2_with (first | (go_at_call 24; refine (sisNaN_any _ _).mono ?_; rintro e w' ⟨rfl, rfl⟩))
        go_ret2
        refine ⟨i, ?_, q, HW.out⟩
        rw [HR2.out, decide_eq_false fun h => hin h.1]
        rfl
end Go.Proofs.Ybulkbycg
