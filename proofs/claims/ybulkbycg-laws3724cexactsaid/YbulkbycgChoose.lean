/-
  slices.choosePivotOrdered at int32 (16), at more than eight elements.
-/
import Derived.Test.YbulkbycgPivot
import Derived.Sort.LotD4
namespace Go.Proofs.Ybulkbycg
open Go.RowKit Go.Sort

theorem sp_new {w wr : World} {B off n : Nat} {d : Array Int} (h : SW w wr B off n d) : SP w (wr.alloc (.cells #[.int .i64 0] 3)) B off n d wr.heap.size 0 :=
  ⟨h.alloc _, World.rowIs_alloc wr #[.int .i64 0] 3 _ (fun i hi => by have : i = 0 := by simpa using hi
                                                                      subst this; rfl), h.aside.size, Nat.ne_of_gt h.ltB⟩

set_option maxRecDepth 100000 in
set_option maxHeartbeats 2000000 in
theorem choose_any (w wr : World) (B off n cap a b : Nat) (d : Array Int) (hS : SW w wr B off n d) (hab : a + 12 < b) (hb : b ≤ n) (hn : n ≤ 1024) :
    Calls Yba.prog 16 #[.slice (some ⟨B, off, none⟩) n cap, .int .i64 a, .int .i64 b] wr fun e w' => e = .returned (.tuple #[.int .i64 (choosePivot ltInt d a b).1, .int .i64 (hintCode (choosePivot ltInt d a b).2)]) ∧ SW w w' B off n d := by
  have hP := sp_new hS
  have HP := Lib.hid hP
  obtain ⟨S, hSz⟩ : ∃ S, wr.heap.size = S := ⟨_, rfl⟩
  obtain ⟨Q, hQ⟩ : ∃ Q, Q = (b - a) / 4 := ⟨_, rfl⟩
  have hq : ((b : Int) - (a : Int)).tdiv 4 = (Q : Int) := by
    rw [Int.tdiv_eq_ediv_of_nonneg (by omega)]
    omega
  have h8 : (8 : Int) ≤ (b : Int) - a := by omega
  have hQ1 : 3 ≤ Q := by omega
  have hQ2 : a + Q * 3 + 1 < n := by omega
  clear hS hP
  by_cases h50 : b - a ≥ 50
  · have h50z : (50 : Int) ≤ (b : Int) - a := by omega
    obtain ⟨r1, hr1⟩ : ∃ r, r = medianAdjacent ltInt d (a + Q) 0 := ⟨_, rfl⟩
    obtain ⟨r2, hr2⟩ : ∃ r, r = medianAdjacent ltInt d (a + Q * 2) r1.2 := ⟨_, rfl⟩
    obtain ⟨r3, hr3⟩ : ∃ r, r = medianAdjacent ltInt d (a + Q * 3) r2.2 := ⟨_, rfl⟩
    obtain ⟨rm, hrm⟩ : ∃ r, r = median ltInt d r1.1 r2.1 r3.1 r3.2 := ⟨_, rfl⟩
    have hraw : rawPivot ltInt d a b = rm := by rw [rawPivot, if_pos (by omega), if_pos h50, ← hQ, Nat.mul_one, ← hr1, ← hr2, ← hr3, ← hrm]
    have h1 := medadj_any w _ B off n cap (a + Q) S 0 d (hSz ▸ HP.out) (by omega) (by omega) hn (by omega)
    rw [show ((a + Q : Nat) : Int) = (a : Int) + (Q : Int) by omega, ← hr1] at h1
    have hraw' := Lib.hid hraw
    have R2 := Lib.hid hr2
    have R3 := Lib.hid hr3
    have RM := Lib.hid hrm
    clear hraw hr1 hr2 hr3 hrm HP hQ
    go_enter Yba.func16, Yba.ntmps16
    go_upto_region 8 with fail
    have H1 := Lib.hid h1
    clear h1
    go_wp2_with fail
    refine H1.out.mono ?_
    rintro e w1 ⟨rfl, hS1, l1, s1⟩
    clear H1
    have h2 := medadj_any w w1 B off n cap (a + Q * 2) S r1.2 d hS1 (by omega) (by omega) hn (by omega)
    rw [show ((a + Q * 2 : Nat) : Int) = (a : Int) + (Q : Int) * 2 by omega, ← R2.out] at h2
    have H2 := Lib.hid h2
    clear h2
    go_wp2_with fail
    refine H2.out.mono ?_
    rintro e w2 ⟨rfl, hS2, l2, s2⟩
    clear H2
    have h3 := medadj_any w w2 B off n cap (a + Q * 3) S r2.2 d hS2 (by omega) (by omega) hn (by omega)
    rw [show ((a + Q * 3 : Nat) : Int) = (a : Int) + (Q : Int) * 3 by omega, ← R3.out] at h3
    have H3 := Lib.hid h3
    clear h3
    go_wp2_with fail
    refine H3.out.mono ?_
    rintro e w3 ⟨rfl, hS3, l3, s3⟩
    clear H3
    have h4 := median_any w w3 B off n cap r1.1 r2.1 r3.1 S r3.2 d hS3 l1 l2 l3 hn (by omega)
    rw [← RM.out] at h4
    have H4 := Lib.hid h4
    clear h4
    go_wp2_with fail
    refine H4.out.mono ?_
    rintro e w4 ⟨rfl, hS4, l4, s4⟩
    clear H4
    have hraw := hraw'.out
    clear hraw' R2 R3 RM hS1 hS2 hS3
    have c0 := hS4.cnt.cell (i := 0) (by omega)
    have HS4 := Lib.hid hS4
    have HRW := Lib.hid hraw
    clear hS4 hraw
    by_cases h0 : rm.2 = 0
    · have hz : (rm.2 : Int) = 0 := by omega
      go_wp2
      go_ret2
      rw [choosePivot_eq, HRW.out, h0]
      exact ⟨rfl, HS4.out.sw⟩
    · by_cases h12 : rm.2 = 12
      · have hz : (rm.2 : Int) = 12 := by omega
        go_wp2
        go_ret2
        rw [choosePivot_eq, HRW.out, h12]
        exact ⟨rfl, HS4.out.sw⟩
      · have hz : ¬ (rm.2 : Int) = 0 := by omega
        have hz2 : ¬ (rm.2 : Int) = 12 := by omega
        go_wp2
        go_ret2
        rw [choosePivot_eq, HRW.out, show hintOf rm.2 = .unknown by unfold hintOf; rw [if_neg h0, if_neg h12]]
        exact ⟨rfl, HS4.out.sw⟩
  · have h50z : ¬ (50 : Int) ≤ (b : Int) - a := by omega
    obtain ⟨rm, hrm⟩ : ∃ r, r = median ltInt d (a + Q) (a + Q * 2) (a + Q * 3) 0 := ⟨_, rfl⟩
    have hraw : rawPivot ltInt d a b = rm := by rw [rawPivot, if_pos (by omega), if_neg h50, ← hQ, Nat.mul_one, ← hrm]
    have h4 := median_any w _ B off n cap (a + Q) (a + Q * 2) (a + Q * 3) S 0 d (hSz ▸ HP.out) (by omega) (by omega) (by omega) hn (by omega)
    rw [show ((a + Q : Nat) : Int) = (a : Int) + (Q : Int) by omega, show ((a + Q * 2 : Nat) : Int) = (a : Int) + (Q : Int) * 2 by omega, show ((a + Q * 3 : Nat) : Int) = (a : Int) + (Q : Int) * 3 by omega, ← hrm] at h4
    have hraw' := Lib.hid hraw
    clear hraw hrm HP hQ
    go_enter Yba.func16, Yba.ntmps16
    go_upto_region 11 with fail
    have H4 := Lib.hid h4
    clear h4
    go_wp2_with fail
    refine H4.out.mono ?_
    rintro e w4 ⟨rfl, hS4, l4, s4⟩
    clear H4
    have hraw := hraw'.out
    clear hraw'
    have c0 := hS4.cnt.cell (i := 0) (by omega)
    have HS4 := Lib.hid hS4
    have HRW := Lib.hid hraw
    clear hS4 hraw
    by_cases h0 : rm.2 = 0
    · have hz : (rm.2 : Int) = 0 := by omega
      go_wp2
      go_ret2
      rw [choosePivot_eq, HRW.out, h0]
      exact ⟨rfl, HS4.out.sw⟩
    · by_cases h12 : rm.2 = 12
      · have hz : (rm.2 : Int) = 12 := by omega
        go_wp2
        go_ret2
        rw [choosePivot_eq, HRW.out, h12]
        exact ⟨rfl, HS4.out.sw⟩
      · have hz : ¬ (rm.2 : Int) = 0 := by omega
        have hz2 : ¬ (rm.2 : Int) = 12 := by omega
        go_wp2
        go_ret2
        rw [choosePivot_eq, HRW.out, show hintOf rm.2 = .unknown by unfold hintOf; rw [if_neg h0, if_neg h12]]
        exact ⟨rfl, HS4.out.sw⟩
end Go.Proofs.Ybulkbycg
