/-
  slices.heapSortOrdered at int32 (14).
-/
import Derived.Test.YbulkbycgSift
namespace Go.Proofs.Ybulkbycg
open Go.RowKit Go.Sort

set_option maxRecDepth 100000 in
set_option maxHeartbeats 2000000 in
theorem heap_any (w wr : World) (B off n cap a b : Nat) (d : Array Int) (hS : SW w wr B off n d) (hab : a ≤ b) (hb : b ≤ n) (hn : n ≤ 1024) :
    Calls Yba.prog 14 #[.slice (some ⟨B, off, none⟩) n cap, .int .i64 a, .int .i64 b] wr fun e w' => e = .returned (.tuple #[]) ∧ SW w w' B off n (heapSort ltInt d a b) := by
  go_enter Yba.func14, Yba.ntmps14
  go_wp2
  go_loopg [9] ((b - a - 1) / 2 + 1) (fun k vi wi => ∃ (e : Array Int), vi = .int .i64 ((k : Int) - 1) ∧ k ≤ (b - a - 1) / 2 + 1 ∧ SW w wi B off n e ∧ heapPop ltInt a (b - a) (heapBuild ltInt (b - a) a k e) = heapSort ltInt d a b)
  case atStart => exact ⟨d, by rw [half_start hab], Nat.le_refl _, hS, rfl⟩
  case round =>
    obtain ⟨e, rfl, hk, hSi, hE⟩ := hrel
    have HE := Lib.hid hE
    have HS := Lib.hid hSi
    clear hE hSi hS
    by_cases h0 : gk = 0
    · subst h0
      go_wp2
      go_loopg [10] (b - a) (fun k vi wi => ∃ (f : Array Int), vi = .int .i64 ((k : Int) - 1) ∧ k ≤ b - a ∧ SW w wi B off n f ∧ heapPop ltInt a k f = heapSort ltInt d a b)
      case atStart => exact ⟨e, by go_num, Nat.le_refl _, HS.out, HE.out⟩
      case round =>
        obtain ⟨f, rfl, hk2, hSj, hF⟩ := hrel
        have HF := Lib.hid hF
        obtain ⟨G, HG, hc, hf⟩ := hSj.fam
        have HSj := Lib.hid hSj
        clear hF hSj HS HE
        by_cases h1 : gk = 0
        · subst h1
          go_wp2
          go_end0
          exact ⟨rfl, by rw [← HF.out]; exact HSj.out⟩
        · obtain ⟨k, hkk⟩ : ∃ k, gk = k + 1 := ⟨gk - 1, by omega⟩
          subst hkk
          by_cases hk0 : k = 0
          · subst hk0
            go_wp2
            go_region
            go_wp2_with fail
            refine (sift_any w _ B off n cap 0 0 a _ (HSj.out.swpG HG 1 a a (by omega) (by omega)) (by omega) (by omega) hn).mono ?_
            rintro e w1 ⟨rfl, h1⟩
            have HS1 := Lib.hid h1
            clear h1
            go_wp2
            go_roundg 0
            case measure => omega
            case rel => exact ⟨_, by go_num, by omega, HS1.out, HF.out⟩
          · go_wp2
            go_region
            go_wp2_with fail
            refine (sift_any w _ B off n cap 0 k a _ (HSj.out.swpG HG 1 a (a + k) (by omega) (by omega)) (by omega) (by omega) hn).mono ?_
            rintro e w1 ⟨rfl, h1⟩
            have HS1 := Lib.hid h1
            clear h1
            go_wp2
            go_roundg k
            case measure => omega
            case rel => exact ⟨_, by go_num, by omega, HS1.out, HF.out⟩
    · obtain ⟨k, hkk⟩ : ∃ k, gk = k + 1 := ⟨gk - 1, by omega⟩
      subst hkk
      have hcall := sift_any w wr B off n cap k (b - a) a _ HS.out (by omega) (by omega) hn
      rw [show ((b - a : Nat) : Int) = (b : Int) - (a : Int) by omega] at hcall
      have HC := Lib.hid hcall
      clear hcall
      go_wp2_with fail
      refine HC.out.mono ?_
      rintro e w1 ⟨rfl, h1⟩
      have HS1 := Lib.hid h1
      clear h1
      go_wp2
      go_roundg k
      case measure => omega
      case rel => exact ⟨_, by go_num, by omega, HS1.out, HE.out⟩
end Go.Proofs.Ybulkbycg
