/-
  slices.breakPatternsOrdered at int32 (15).
-/
import Derived.Test.YbulkbycgSort0
import Derived.Test.YbulkbycgShelf
import Derived.Sort.Walk7
namespace Go.Proofs.Ybulkbycg
open Go.RowKit Go.Sort

/-- The row, and the generator's state in a block of its own. -/
structure SR (w wr : World) (B off n : Nat) (d : Array Int) (S X : Nat) : Prop where
  sw : SW w wr B off n d
  gen : wr.rowIs S 56 1 (fun _ => .int .u64 X)
  new : w.heap.size ≤ S
  ne : S ≠ B

theorem SR.step {w wr : World} {B off n : Nat} {d : Array Int} {G : Nat → Int} {S X : Nat} (h : SR w wr B off n d S X) (HG : Hid (∀ t, G t = d[t]!)) (Y q i j : Nat) (hi : i < n) (hj : j < n) :
    SR w ((((wr.setCell ⟨S, 0, none⟩ (.int .u64 Y)).drewN q).setCell ⟨B, off + i, none⟩ (.int .i32 (G j))).setCell ⟨B, off + j, none⟩ (.int .i32 (G i))) B off n (Sort.swp d i j) S Y := by
  have h1 : (wr.setCell ⟨S, 0, none⟩ (.int .u64 Y)).rowIs S 56 1 (fun _ => .int .u64 Y) := (h.gen.set 0 _).congr fun i hi => by rw [if_pos (by omega)]
  exact ⟨(h.sw.setNew h.new h.ne _).swpG HG q i j hi hj, ((h1.of_block rfl : ((wr.setCell ⟨S, 0, none⟩ (.int .u64 Y)).drewN q).rowIs S 56 1 _).setOther h.ne _).setOther h.ne _, h.new, h.ne⟩

theorem sr_new {w wr : World} {B off n : Nat} {d : Array Int} (h : SW w wr B off n d) (X : Nat) : SR w (wr.alloc (.cells #[.int .u64 X] 56)) B off n d wr.heap.size X :=
  ⟨h.alloc _, World.rowIs_alloc wr #[.int .u64 X] 56 _ (fun i hi => by have : i = 0 := by simpa using hi
                                                                       subst this; rfl), h.aside.size, Nat.ne_of_gt h.ltB⟩

set_option maxRecDepth 100000 in
set_option maxHeartbeats 2000000 in
theorem break_any (w wr : World) (B off n cap a b : Nat) (d : Array Int) (hS : SW w wr B off n d) (h8 : a + 8 ≤ b) (hb : b ≤ n) (hn : n ≤ 1024) :
    Calls Yba.prog 15 #[.slice (some ⟨B, off, none⟩) n cap, .int .i64 a, .int .i64 b] wr fun e w' => e = .returned (.tuple #[]) ∧ SW w w' B off n (breakPatterns d a b) := by
  obtain ⟨L, hL⟩ : ∃ L, b = a + L := ⟨b - a, by omega⟩
  obtain ⟨M, hM⟩ : ∃ M : Nat, M = 1 <<< bitsLen L := ⟨_, rfl⟩
  obtain ⟨Q, hQ⟩ : ∃ Q, Q = L / 4 := ⟨_, rfl⟩
  have HBP := Lib.hid (show breakPatterns d a b = bpRest a L M (a + Q * 2 - 1) 3 0 (UInt64.ofNat L, d) by rw [hL, breakPatterns_eq d a L (by omega), hM, hQ])
  have hM1 : 1 ≤ M := by rw [hM, Nat.one_shiftLeft]; exact Nat.two_pow_pos _
  have hM2 : M ≤ 2 * L := by rw [hM, Nat.one_shiftLeft]; exact two_pow_bitsLen_le (by omega)
  have hNP : ∀ w, Calls Yba.prog 26 #[.int .i64 (L : Int)] w fun e w' => e = .returned (.int .u64 (M : Int)) ∧ w' = w := by rw [hM]; exact fun w => Sh.nextPow L (by omega) w
  have HR := Lib.hid (sr_new hS L)
  have HNP := Lib.hid hNP
  obtain ⟨S, hSz⟩ : ∃ S, wr.heap.size = S := ⟨_, rfl⟩
  rw [hSz] at HR
  have hl : (b : Int) - (a : Int) = (L : Int) := by omega
  have hq : (L : Int).tdiv 4 = (Q : Int) := by
    rw [Int.tdiv_eq_ediv_of_nonneg (by omega)]
    omega
  have hL8 : 8 ≤ L := by omega
  have hLn : a + L ≤ n := by omega
  have hQ2 : 2 ≤ Q := by omega
  have hQL : Q * 4 ≤ L := by omega
  have HL1 := Lib.hid (show (UInt64.ofNat L).toNat = L by simp; omega)
  clear hS hNP hM hQ hL h8 hb
  go_enter Yba.func15, Yba.ntmps15
  go_wp2_with (first | (go_at_call 26; refine (HNP.out _).mono ?_; rintro e w' ⟨rfl, rfl⟩))
  go_loopg [9, 10] 3 (fun g vi _ wi => ∃ (t I : Nat) (r : UInt64) (e : Array Int), t + g = 3 ∧ I = a + Q * 2 - 1 + t ∧ vi = .int .i64 I ∧ SR w wi B off n e S r.toNat ∧ bpRest a L M (a + Q * 2 - 1) (3 - t) t (r, e) = breakPatterns d a b)
  case atStart => exact ⟨0, a + Q * 2 - 1, UInt64.ofNat L, d, by omega, rfl, by go_num, by rw [HL1.out]; exact HR.out, HBP.out.symm⟩
  case round =>
    obtain ⟨t, I, r, e, ht, hI, rfl, hSR, hE⟩ := hrel
    have HI := Lib.hid hI
    have hIn : a + Q * 2 ≤ I + 1 := by omega
    have hIt : I + 1 = a + Q * 2 + t := by omega
    clear HL1 HBP HR HNP hSz
    obtain ⟨R, hRr⟩ : ∃ R : Nat, R = r.toNat := ⟨_, rfl⟩
    have lR : R < 18446744073709551616 := by rw [hRr]; exact r.toNat_lt
    obtain ⟨R', hR'⟩ : ∃ R' : Nat, R' = xorNextN R := ⟨_, rfl⟩
    have lR' : R' < 18446744073709551616 := by rw [hR']; exact xorNextN_lt R lR
    obtain ⟨O, hO⟩ : ∃ O : Nat, O = R' &&& (M - 1) := ⟨_, rfl⟩
    have lO : O ≤ M - 1 := by rw [hO]; exact Nat.and_le_right
    have eAnd : bits .and .u64 (R' : Int) ((M : Int) - 1) = (O : Int) := by
      rw [show ((M : Int) - 1) = ((M - 1 : Nat) : Int) by omega, bits_and_u64_nat _ _ lR' (by omega), hO]
    have e1 : R' = (xorNext r).toNat := by rw [hR', hRr, xorNext_toNat]
    have HN : Hid (R' = (xorNext r).toNat ∧ O = (xorNext r).toNat &&& (M - 1)) := ⟨e1, by rw [hO, e1]⟩
    rw [← hRr] at hSR
    have HE := Lib.hid hE
    obtain ⟨G, HG, hc, hf⟩ := hSR.sw.fam
    have c0 := hSR.gen.cell (i := 0) (by omega)
    have f0 := hSR.gen.frozen 0
    have hNext := Sh.xorNext S 0 R lR wr c0 f0
    rw [← hR'] at hNext
    have HNX := Lib.hid hNext
    have hne := hSR.ne
    have HS := Lib.hid hSR
    clear hI hNext hE hSR hRr hR' hO e1 c0 f0
    by_cases h3 : t < 3
    · have hbp := fun o ho => bp_step a L M (a + Q * 2 - 1) t r e o h3 ho
      have HBP := Lib.hid hbp
      clear hbp
      by_cases hLO : L ≤ O
      · by_cases hEq : I = a + (O - L)
        · have HQ := Lib.hid hEq
          go_wp2_with fail
          refine HNX.out.mono ?_
          rintro e w' ⟨rfl, rfl⟩
          go_wp2
          go_region
          go_wp2
          go_roundg (gk - 1)
          case measure => omega
          case rel =>
            have h := HS.out.step HG R' 4 I (a + (O - L)) (by omega) (by omega)
            rw [HQ.out] at h
            exact ⟨t + 1, I + 1, xorNext r, _, by omega, by rw [HI.out, Nat.add_assoc], by go_num, by rw [← HN.out.1]; exact h, by rw [← HE.out, HBP.out (O - L) (by rw [← HN.out.2, if_pos hLO]), ← HI.out, HQ.out]⟩
        · go_wp2_with fail
          refine HNX.out.mono ?_
          rintro e w' ⟨rfl, rfl⟩
          go_wp2
          go_region
          go_wp2
          go_roundg (gk - 1)
          case measure => omega
          case rel => exact ⟨t + 1, I + 1, xorNext r, _, by omega, by rw [HI.out, Nat.add_assoc], by go_num, by rw [← HN.out.1]; exact HS.out.step HG R' 4 I (a + (O - L)) (by omega) (by omega), by rw [← HE.out, HBP.out (O - L) (by rw [← HN.out.2, if_pos hLO]), HI.out]⟩
      · by_cases hEq : I = a + O
        · have HQ := Lib.hid hEq
          go_wp2_with fail
          refine HNX.out.mono ?_
          rintro e w' ⟨rfl, rfl⟩
          go_wp2
          go_region
          go_wp2
          go_roundg (gk - 1)
          case measure => omega
          case rel =>
            have h := HS.out.step HG R' 4 I (a + O) (by omega) (by omega)
            rw [HQ.out] at h
            exact ⟨t + 1, I + 1, xorNext r, _, by omega, by rw [HI.out, Nat.add_assoc], by go_num, by rw [← HN.out.1]; exact h, by rw [← HE.out, HBP.out (O) (by rw [← HN.out.2, if_neg (by omega)]), ← HI.out, HQ.out]⟩
        · go_wp2_with fail
          refine HNX.out.mono ?_
          rintro e w' ⟨rfl, rfl⟩
          go_wp2
          go_region
          go_wp2
          go_roundg (gk - 1)
          case measure => omega
          case rel => exact ⟨t + 1, I + 1, xorNext r, _, by omega, by rw [HI.out, Nat.add_assoc], by go_num, by rw [← HN.out.1]; exact HS.out.step HG R' 4 I (a + O) (by omega) (by omega), by rw [← HE.out, HBP.out (O) (by rw [← HN.out.2, if_neg (by omega)]), HI.out]⟩
    · obtain rfl : t = 3 := by omega
      go_wp2
      go_end0
      exact ⟨rfl, by rw [← HE.out]; exact HS.out.sw⟩
end Go.Proofs.Ybulkbycg
