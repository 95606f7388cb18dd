/-
  slices.siftDownOrdered at int32 (25).
-/
import Derived.Test.YbulkbycgSort0
namespace Go.Proofs.Ybulkbycg
open Go.RowKit Go.Sort

set_option maxRecDepth 100000 in
set_option maxHeartbeats 2000000 in
theorem sift_any (w wr : World) (B off n cap lo hi first : Nat) (d : Array Int) (hS : SW w wr B off n d) (hlo : lo ≤ hi) (hb : first + hi ≤ n) (hn : n ≤ 1024) :
    Calls Yba.prog 25 #[.slice (some ⟨B, off, none⟩) n cap, .int .i64 lo, .int .i64 hi, .int .i64 first] wr fun e w' => e = .returned (.tuple #[]) ∧ SW w w' B off n (siftDown ltInt hi first lo d) := by
  go_enter Yba.func25, Yba.ntmps25
  go_wp2
  go_loopg [8] (hi - lo) (fun g vi wi => ∃ (root : Nat) (e : Array Int), vi = .int .i64 root ∧ root ≤ hi ∧ hi - root ≤ g ∧ SW w wi B off n e ∧ siftDown ltInt hi first root e = siftDown ltInt hi first lo d)
  case atStart => exact ⟨lo, d, rfl, hlo, Nat.le_refl _, hS, rfl⟩
  case round =>
    obtain ⟨root, e, rfl, hr, hg, hSi, hE⟩ := hrel
    have HE := Lib.hid hE
    have HS := Lib.hid hSi
    obtain ⟨G, HG, hc, hf⟩ := hSi.fam
    clear hE hSi hS
    by_cases h0 : hi ≤ 2 * root + 1
    · have h0z : (hi : Int) ≤ 2 * (root : Int) + 1 := by omega
      go_wp2
      go_end0
      exact ⟨rfl, by rw [← HE.out, sd_end ltInt e h0]; exact HS.out⟩
    · have h0z : ¬ ((hi : Int) ≤ 2 * (root : Int) + 1) := by omega
      by_cases h1 : 2 * root + 2 < hi
      · have h1z : 2 * (root : Int) + 1 + 1 < (hi : Int) := by omega
        cases hl : ltInt (G (first + 2 * root + 1)) (G (first + 2 * root + 2))
        · have HL := Lib.hid hl
          go_wp2
          go_quiet (first | (go_at_call 19; refine Calls.quiet_of_same (less_any _ _ _)))
          go_wp2
          have S2 := HS.out.drewN nq
          have hc2 : ∀ t, t < n → (wr.drewN nq).cell? ⟨B, off + t, none⟩ = some (.int .i32 (G t)) := hc
          have hf2 : ∀ t, t < n → (wr.drewN nq).frozen? ⟨B, off + t, none⟩ = false := hf
          clear hc hf HS
          generalize wr.drewN nq = wr2 at S2 hc2 hf2 ⊢
          have HS := Lib.hid S2
          clear S2
          cases hl2 : ltInt (G (first + root)) (G (first + 2 * root + 1))
          · have HL2 := Lib.hid hl2
            go_quiet (first | (go_at_call 19; refine Calls.quiet_of_same (less_any _ _ _)))
            go_wp2
            (try simp only [Exit.inBlock, Exit.then])
            refine bodyPost_ret (results_none rfl _ _ _) rfl ?_
            refine ⟨rfl, ?_⟩
            rw [← HE.out, sd_left_stop ltInt e (by omega) (fun _ => by rw [← HG.out, ← HG.out]; exact HL.out) (by rw [← HG.out, ← HG.out]; exact HL2.out)]
            exact HS.out.drewN _
          · have HL2 := Lib.hid hl2
            go_quiet (first | (go_at_call 19; refine Calls.quiet_of_same (less_any _ _ _)))
            go_wp2
            go_region
            go_wp2
            go_roundg (hi - (2 * root + 1))
            case measure => omega
            case rel =>
              refine ⟨2 * root + 1, Sort.swp e (first + root) (first + (2 * root + 1)), by go_num, by omega, by omega, HS.out.swpG HG _ (first + root) (first + (2 * root + 1)) (by omega) (by omega), ?_⟩
              rw [← HE.out, sd_left_go ltInt e (by omega) (fun _ => by rw [← HG.out, ← HG.out]; exact HL.out) (by rw [← HG.out, ← HG.out]; exact HL2.out)]
        · have HL := Lib.hid hl
          go_wp2
          go_quiet (first | (go_at_call 19; refine Calls.quiet_of_same (less_any _ _ _)))
          go_wp2
          have S2 := HS.out.drewN nq
          have hc2 : ∀ t, t < n → (wr.drewN nq).cell? ⟨B, off + t, none⟩ = some (.int .i32 (G t)) := hc
          have hf2 : ∀ t, t < n → (wr.drewN nq).frozen? ⟨B, off + t, none⟩ = false := hf
          clear hc hf HS
          generalize wr.drewN nq = wr2 at S2 hc2 hf2 ⊢
          have HS := Lib.hid S2
          clear S2
          cases hl2 : ltInt (G (first + root)) (G (first + 2 * root + 2))
          · have HL2 := Lib.hid hl2
            go_quiet (first | (go_at_call 19; refine Calls.quiet_of_same (less_any _ _ _)))
            go_wp2
            (try simp only [Exit.inBlock, Exit.then])
            refine bodyPost_ret (results_none rfl _ _ _) rfl ?_
            refine ⟨rfl, ?_⟩
            rw [← HE.out, sd_right_stop ltInt e h1 (by rw [← HG.out, ← HG.out]; exact HL.out) (by rw [← HG.out, ← HG.out]; exact HL2.out)]
            exact HS.out.drewN _
          · have HL2 := Lib.hid hl2
            go_quiet (first | (go_at_call 19; refine Calls.quiet_of_same (less_any _ _ _)))
            go_wp2
            go_region
            go_wp2
            go_roundg (hi - (2 * root + 2))
            case measure => omega
            case rel =>
              refine ⟨2 * root + 2, Sort.swp e (first + root) (first + (2 * root + 2)), by go_num, by omega, by omega, HS.out.swpG HG _ (first + root) (first + (2 * root + 2)) (by omega) (by omega), ?_⟩
              rw [← HE.out, sd_right_go ltInt e h1 (by rw [← HG.out, ← HG.out]; exact HL.out) (by rw [← HG.out, ← HG.out]; exact HL2.out)]
      · have h1z : decide (2 * (root : Int) + 1 + 1 < (hi : Int)) = false := decide_eq_false (by omega)
        go_wp2
        go_quiet (first | (go_at_call 19; refine Calls.quiet_of_same (less_any _ _ _)))
        go_wp2
        have S2 := HS.out.drewN nq
        have hc2 : ∀ t, t < n → (wr.drewN nq).cell? ⟨B, off + t, none⟩ = some (.int .i32 (G t)) := hc
        have hf2 : ∀ t, t < n → (wr.drewN nq).frozen? ⟨B, off + t, none⟩ = false := hf
        clear hc hf HS
        generalize wr.drewN nq = wr2 at S2 hc2 hf2 ⊢
        have HS := Lib.hid S2
        clear S2
        cases hl2 : ltInt (G (first + root)) (G (first + 2 * root + 1))
        · have HL2 := Lib.hid hl2
          go_quiet (first | (go_at_call 19; refine Calls.quiet_of_same (less_any _ _ _)))
          go_wp2
          (try simp only [Exit.inBlock, Exit.then])
          refine bodyPost_ret (results_none rfl _ _ _) rfl ?_
          refine ⟨rfl, ?_⟩
          rw [← HE.out, sd_left_stop ltInt e (by omega) (fun h => absurd h h1) (by rw [← HG.out, ← HG.out]; exact HL2.out)]
          exact HS.out.drewN _
        · have HL2 := Lib.hid hl2
          go_quiet (first | (go_at_call 19; refine Calls.quiet_of_same (less_any _ _ _)))
          go_wp2
          go_region
          go_wp2
          go_roundg (hi - (2 * root + 1))
          case measure => omega
          case rel =>
            refine ⟨2 * root + 1, Sort.swp e (first + root) (first + (2 * root + 1)), by go_num, by omega, by omega, HS.out.swpG HG _ (first + root) (first + (2 * root + 1)) (by omega) (by omega), ?_⟩
            rw [← HE.out, sd_left_go ltInt e (by omega) (fun h => absurd h h1) (by rw [← HG.out, ← HG.out]; exact HL2.out)]
end Go.Proofs.Ybulkbycg
