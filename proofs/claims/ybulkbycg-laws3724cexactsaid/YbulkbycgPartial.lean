/-
  slices.partialInsertionSortOrdered at int32 (18).
-/
import Derived.Test.YbulkbycgSort0
namespace Go.Proofs.Ybulkbycg
open Go.RowKit Go.Sort

set_option maxRecDepth 100000 in
set_option maxHeartbeats 4000000 in
theorem pins_any (w wr : World) (B off n cap a b : Nat) (d : Array Int) (hS : SW w wr B off n d) (hab : a < b) (hb : b ≤ n) (hn : n ≤ 1024) :
    Calls Yba.prog 18 #[.slice (some ⟨B, off, none⟩) n cap, .int .i64 a, .int .i64 b] wr fun e w' => e = .returned (.bool (partialInsertionSort ltInt d a b).2) ∧ SW w w' B off n (partialInsertionSort ltInt d a b).1 := by
  go_enter Yba.func18, Yba.ntmps18
  go_wp2
  go_loopg [7, 8, 9, 10] 5 (fun g vi vs _ _ wi => ∃ (i s : Nat) (e : Array Int), vi = .int .i64 i ∧ vs = .int .i64 s ∧ s + g = 5 ∧ a < i ∧ i ≤ b ∧ SW w wi B off n e ∧ partialIns ltInt a b (5 - s) i e = partialInsertionSort ltInt d a b)
  case atStart => exact ⟨a + 1, 0, d, by go_num, by go_num, by omega, by omega, by omega, hS, rfl⟩
  case round =>
    obtain ⟨i, s, e, rfl, rfl, hg, hai, hib, hSi, hE⟩ := hrel
    have HE := Lib.hid hE
    have HS := Lib.hid hSi
    clear hE hSi hS
    by_cases hs : s < 5
    · go_upto_block 2 with fail
      go_cut [7] (fun vi wc => ∃ x, vi = .int .i64 (x : Nat) ∧ i ≤ x ∧ x ≤ b ∧ scanSorted ltInt e b i = x ∧ SW w wc B off n e)
      case first =>
        clear HE
        go_wp2
        go_loopg [7] b (fun g vi wi => ∃ (x : Nat), vi = .int .i64 x ∧ x + g = b + i ∧ i ≤ x ∧ x ≤ b ∧ scanSorted ltInt e b x = scanSorted ltInt e b i ∧ SW w wi B off n e)
        case atStart => exact ⟨i, rfl, by omega, by omega, by omega, rfl, HS.out⟩
        case round =>
          obtain ⟨x, rfl, hxg, hix, hxj, hX, hSx⟩ := hrel
          have HX := Lib.hid hX
          obtain ⟨G, HG, hc, hf⟩ := hSx.fam
          have HSx := Lib.hid hSx
          clear hX hSx HS
          by_cases hle : x < b
          · cases hl : ltInt (G x) (G (x - 1))
            · have HL := Lib.hid hl
              go_wp2
              go_quiet (first | (go_at_call 19; refine Calls.quiet_of_same (less_any _ _ _)))
              go_wp2
              go_roundg (gk - 1)
              case measure => omega
              case rel => exact ⟨x + 1, by go_num, by omega, by omega, by omega, by rw [← HX.out]; exact (scanSorted_go _ e b x hle (by rw [← HG.out, ← HG.out, HL.out])).symm, HSx.out.drewN _⟩
            · have HL := Lib.hid hl
              go_wp2
              go_quiet (first | (go_at_call 19; refine Calls.quiet_of_same (less_any _ _ _)))
              go_wp2
              go_meet
              case rel => exact ⟨x, rfl, by omega, by omega, by rw [← HX.out]; exact scanSorted_stop _ e b x (.inr (by rw [← HG.out, ← HG.out, HL.out])), HSx.out.drewN _⟩
          · go_wp2
            go_quiet (first | (go_at_call 19; refine Calls.quiet_of_same (less_any _ _ _)))
            go_wp2
            go_meet
            case rel => exact ⟨x, rfl, by omega, by omega, by rw [← HX.out]; exact scanSorted_stop _ e b x (.inl hle), HSx.out.drewN _⟩
      case rest =>
        clear HS
        obtain ⟨x, rfl, hix, hxj, hX, hSx⟩ := hcut
        have HX := Lib.hid hX
        obtain ⟨G, HG, hc, hf⟩ := hSx.fam
        have HSx := Lib.hid hSx
        clear hX hSx
        by_cases hxb : x = b
        · have hxz : (x : Int) = b := by omega
          go_wp2
          go_ret
          rw [← HE.out, pi_true ltInt a b s i e hs (by rw [HX.out, hxb])]
          exact ⟨rfl, HSx.out⟩
        · have hxz : ¬ (x : Int) = b := by omega
          by_cases h50 : b - a < 50
          · have h50z : (b : Int) - a < 50 := by omega
            go_wp2
            go_ret
            rw [← HE.out, pi_short ltInt a b s i e hs (by rw [HX.out]; exact hxb) h50]
            exact ⟨rfl, HSx.out⟩
          · have h50z : ¬ (b : Int) - a < 50 := by omega
            have hgo := pi_go ltInt a b s i x e hs HX.out hxb h50
            have HGO := Lib.hid hgo
            clear hgo
            go_wp2
            go_region
            go_upto_if 61 with fail
            go_cut [9] (fun _ wd => SW w wd B off n (fixDown ltInt a x (Sort.swp e x (x - 1))))
            case first =>
              have hS1 := HSx.out.swpG HG 1 x (x - 1) (by omega) (by omega)
              have HS1 := Lib.hid hS1
              clear hS1 hc hf HG HSx HGO HE HX
              by_cases h2 : x - a ≥ 2
              · have h2z : (2 : Int) ≤ (x : Int) - a := by omega
                have HFD := Lib.hid (show fixDown ltInt a x (Sort.swp e x (x - 1)) = shiftDown ltInt (x - 1) (Sort.swp e x (x - 1)) from if_pos h2)
                go_wp2
                go_loopg [9] (x - 1) (fun g vj wi => ∃ (f : Array Int), vj = .int .i64 g ∧ g ≤ x - 1 ∧ SW w wi B off n f ∧ shiftDown ltInt g f = shiftDown ltInt (x - 1) (Sort.swp e x (x - 1)))
                case atStart => exact ⟨_, by go_num, Nat.le_refl _, HS1.out, rfl⟩
                case round =>
                  obtain ⟨f, rfl, hyx, hSf, hF⟩ := hrel
                  obtain ⟨y, hyg⟩ : ∃ y, y = gk := ⟨_, rfl⟩
                  subst hyg
                  have HF := Lib.hid hF
                  obtain ⟨G, HG, hc, hf⟩ := hSf.fam
                  have HSf := Lib.hid hSf
                  clear hF hSf HS1
                  by_cases hy0 : y = 0
                  · subst hy0
                    go_wp2
                    go_meet
                    case rel =>
                      rw [HFD.out, ← HF.out, shiftDown_stop ltInt 0 f (.inl rfl)]
                      exact HSf.out
                  · cases hl : ltInt (G y) (G (y - 1))
                    · have HL := Lib.hid hl
                      go_wp2
                      go_quiet (first | (go_at_call 19; refine Calls.quiet_of_same (less_any _ _ _)))
                      go_wp2
                      go_meet
                      case rel =>
                        rw [HFD.out, ← HF.out, shiftDown_stop ltInt y f (.inr (by rw [← HG.out, ← HG.out, HL.out]))]
                        exact HSf.out.drewN _
                    · have HL := Lib.hid hl
                      go_wp2
                      go_quiet (first | (go_at_call 19; refine Calls.quiet_of_same (less_any _ _ _)))
                      go_wp2
                      go_region
                      go_wp2
                      go_roundg (y - 1)
                      case measure => omega
                      case rel => exact ⟨_, by go_num, by omega, HSf.out.swpG HG (nq + 1) y (y - 1) (by omega) (by omega), by rw [← HF.out, shiftDown_go ltInt y f (by omega) (by rw [← HG.out, ← HG.out, HL.out])]⟩
              · have h2z : ¬ (2 : Int) ≤ (x : Int) - a := by omega
                have HFD := Lib.hid (show fixDown ltInt a x (Sort.swp e x (x - 1)) = Sort.swp e x (x - 1) from if_neg h2)
                go_wp2
                go_meet
                case rel =>
                  rw [HFD.out]
                  exact HS1.out
            case rest =>
              have HS1 := Lib.hid hcut
              clear hcut hc hf HG HSx
              have HE2 : Hid (partialIns ltInt a b (5 - (s + 1)) x (fixUp ltInt b x (fixDown ltInt a x (Sort.swp e x (x - 1)))) = partialInsertionSort ltInt d a b) := by rw [← HE.out, HGO.out]; exact Lib.hid rfl
              clear HE HGO HX
              generalize fixDown ltInt a x (Sort.swp e x (x - 1)) = e1 at HS1 HE2
              by_cases h2 : b - x ≥ 2
              · have h2z : (2 : Int) ≤ (b : Int) - x := by omega
                rw [fixUp, if_pos h2] at HE2
                go_wp2
                go_loopg [10] b (fun g vj wi => ∃ (y : Nat) (f : Array Int), vj = .int .i64 y ∧ y + g = b + (x + 1) ∧ x < y ∧ y ≤ b ∧ SW w wi B off n f ∧ shiftUp ltInt b y f = shiftUp ltInt b (x + 1) e1)
                case atStart => exact ⟨x + 1, _, by go_num, by omega, by omega, by omega, HS1.out, rfl⟩
                case round =>
                  obtain ⟨y, f, rfl, hyg, hxy, hyb, hSf, hF⟩ := hrel
                  have HF := Lib.hid hF
                  obtain ⟨G, HG, hc, hf⟩ := hSf.fam
                  have HSf := Lib.hid hSf
                  clear hF hSf HS1
                  by_cases hy0 : y < b
                  · cases hl : ltInt (G y) (G (y - 1))
                    · have HL := Lib.hid hl
                      go_wp2
                      go_quiet (first | (go_at_call 19; refine Calls.quiet_of_same (less_any _ _ _)))
                      go_wp2
                      go_roundg (4 - s)
                      case measure => omega
                      case rel => exact ⟨x, s + 1, f, rfl, by go_num, by omega, by omega, by omega, HSf.out.drewN _, by rw [← HE2.out, ← HF.out, shiftUp_stop ltInt b y f (.inr (by rw [← HG.out, ← HG.out, HL.out]))]⟩
                    · have HL := Lib.hid hl
                      go_wp2
                      go_quiet (first | (go_at_call 19; refine Calls.quiet_of_same (less_any _ _ _)))
                      go_wp2
                      go_region
                      go_wp2
                      go_roundg (gk - 1)
                      case measure => omega
                      case rel => exact ⟨y + 1, _, by go_num, by omega, by omega, by omega, HSf.out.swpG HG (nq + 1) y (y - 1) (by omega) (by omega), by rw [← HF.out, shiftUp_go ltInt b y f hy0 (by rw [← HG.out, ← HG.out, HL.out])]⟩
                  · go_wp2
                    go_roundg (4 - s)
                    case measure => omega
                    case rel => exact ⟨x, s + 1, f, rfl, by go_num, by omega, by omega, by omega, HSf.out, by rw [← HE2.out, ← HF.out, shiftUp_stop ltInt b y f (.inl hy0)]⟩
              · have h2z : ¬ (2 : Int) ≤ (b : Int) - x := by omega
                rw [fixUp, if_neg h2] at HE2
                go_wp2
                go_roundg (4 - s)
                case measure => omega
                case rel => exact ⟨x, s + 1, e1, rfl, by go_num, by omega, by omega, by omega, HS1.out, HE2.out⟩
    · have hs5 : s = 5 := by omega
      subst hs5
      go_wp2
      go_ret
      rw [← HE.out, pi_end]
      exact ⟨rfl, HS.out⟩
end Go.Proofs.Ybulkbycg
