/-
  slices.partitionEqualOrdered at int32 (20).
-/
import Derived.Test.YbulkbycgSort0
namespace Go.Proofs.Ybulkbycg
open Go.RowKit Go.Sort

set_option maxRecDepth 100000 in
set_option maxHeartbeats 2000000 in
theorem parteq_any (w wr : World) (B off n cap a b pivot : Nat) (d : Array Int) (hS : SW w wr B off n d) (hap : a ≤ pivot) (hpb : pivot < b) (hb : b ≤ n) (hn : n ≤ 1024) :
    Calls Yba.prog 20 #[.slice (some ⟨B, off, none⟩) n cap, .int .i64 a, .int .i64 b, .int .i64 pivot] wr fun e w' => e = .returned (.int .i64 (partitionEqual ltInt d a b pivot).1) ∧ SW w w' B off n (partitionEqual ltInt d a b pivot).2 := by
  obtain ⟨G, HG, hc, hf⟩ := hS.fam
  have HS := Lib.hid hS
  clear hS
  go_enter Yba.func20, Yba.ntmps20
  go_wp2
  go_cut [] (fun wc => SW w wc B off n (Sort.swp d a pivot))
  case first =>
    by_cases hpa : pivot = a
    · subst hpa
      go_region
      go_wp2
      go_meet
      case rel => exact HS.out.swpG HG 1 pivot pivot (by omega) (by omega)
    · go_region
      go_wp2
      go_meet
      case rel => exact HS.out.swpG HG 1 a pivot (by omega) (by omega)
  case rest =>
    clear hc hf HG HS
    go_wp2
    go_loopg [9, 10] b (fun g vi vj wi => ∃ (i j : Nat) (e : Array Int), vi = .int .i64 i ∧ vj = .int .i64 j ∧ j + 1 - i ≤ g ∧ a < i ∧ i ≤ j + 2 ∧ j < n ∧ SW w wi B off n e ∧ partEqLoop ltInt a i j e = partitionEqual ltInt d a b pivot)
    case atStart => exact ⟨a + 1, b - 1, _, by go_num, by go_num, by omega, by omega, by omega, by omega, hcut, rfl⟩
    case round =>
      obtain ⟨i, j, e, rfl, rfl, hg, hai, hij, hj, hSi, hE⟩ := hrel
      have HE := Lib.hid hE
      have HS := Lib.hid hSi
      obtain ⟨G, HG, hc, hf⟩ := hSi.fam
      clear hE hSi hcut
      go_upto_block 2 with fail
      go_cut [9] (fun vi wc => ∃ x, vi = .int .i64 (x : Nat) ∧ i ≤ x ∧ x ≤ j + 2 ∧ x = scanUp (fun x => !ltInt e[a]! x) e j i ∧ SW w wc B off n e)
      case first =>
        clear HE hc hf HG
        go_wp2
        go_loopg [9] (j + 2) (fun g vi wi => ∃ (x : Nat), vi = .int .i64 x ∧ x + g = j + 2 + i ∧ i ≤ x ∧ x ≤ j + 2 ∧ scanUp (fun x => !ltInt e[a]! x) e j x = scanUp (fun x => !ltInt e[a]! x) e j i ∧ SW w wi B off n e)
        case atStart => exact ⟨i, rfl, by omega, by omega, by omega, rfl, HS.out⟩
        case round =>
          obtain ⟨x, rfl, hxg, hix, hxj, hX, hSx⟩ := hrel
          have HX := Lib.hid hX
          obtain ⟨G, HG, hc, hf⟩ := hSx.fam
          have HSx := Lib.hid hSx
          clear hX hSx HS
          by_cases hle : x ≤ j
          · cases hl : ltInt (G a) (G x)
            · have HL := Lib.hid hl
              go_wp2
              go_quiet (first | (go_at_call 19; refine Calls.quiet_of_same (less_any _ _ _)))
              go_wp2
              go_roundg (gk - 1)
              case measure => omega
              case rel => exact ⟨x + 1, by go_num, by omega, by omega, by omega, by rw [← HX.out]; exact (scanUp_go _ e j x hle (by rw [← HG.out, ← HG.out, HL.out]; rfl)).symm, HSx.out.drewN _⟩
            · have HL := Lib.hid hl
              go_wp2
              go_quiet (first | (go_at_call 19; refine Calls.quiet_of_same (less_any _ _ _)))
              go_wp2
              go_meet
              case rel => exact ⟨x, rfl, by omega, by omega, by rw [← HX.out]; exact (scanUp_end _ e j x (.inr (by rw [← HG.out, ← HG.out, HL.out]; rfl))).symm, HSx.out.drewN _⟩
          · go_wp2
            go_quiet (first | (go_at_call 19; refine Calls.quiet_of_same (less_any _ _ _)))
            go_wp2
            go_meet
            case rel => exact ⟨x, rfl, by omega, by omega, by rw [← HX.out]; exact (scanUp_end _ e j x (.inl hle)).symm, HSx.out.drewN _⟩
      case rest =>
        clear HS hc hf HG
        obtain ⟨x, rfl, hix, hxj, hX, hSx⟩ := hcut
        have HX := Lib.hid hX
        have HSx := Lib.hid hSx
        clear hX hSx
        go_upto_block 4 with fail
        go_cut [10] (fun vj wc => ∃ y, vj = .int .i64 (y : Nat) ∧ y ≤ j ∧ x ≤ y + 2 ∧ y = scanDown (fun x => ltInt e[a]! x) e x j ∧ SW w wc B off n e)
        case first =>
          clear HE HX
          go_wp2
          go_loopg [10] j (fun g vj wi => ∃ (y : Nat), vj = .int .i64 y ∧ y = g ∧ y ≤ j ∧ x ≤ y + 2 ∧ scanDown (fun x => ltInt e[a]! x) e x y = scanDown (fun x => ltInt e[a]! x) e x j ∧ SW w wi B off n e)
          case atStart => exact ⟨j, rfl, rfl, by omega, by omega, rfl, HSx.out⟩
          case round =>
            obtain ⟨y, rfl, hyg, hyj, hxy, hY, hSy⟩ := hrel
            subst hyg
            have HY := Lib.hid hY
            obtain ⟨G, HG, hc, hf⟩ := hSy.fam
            have HSy := Lib.hid hSy
            clear hY hSy HSx
            by_cases hle : x ≤ y
            · cases hl : ltInt (G a) (G y)
              · have HL := Lib.hid hl
                go_wp2
                go_quiet (first | (go_at_call 19; refine Calls.quiet_of_same (less_any _ _ _)))
                go_wp2
                go_meet
                case rel => exact ⟨y, rfl, by omega, by omega, by rw [← HY.out]; exact (scanDown_end _ e x y (.inr (by rw [← HG.out, ← HG.out, HL.out]))).symm, HSy.out.drewN _⟩
              · have HL := Lib.hid hl
                go_wp2
                go_quiet (first | (go_at_call 19; refine Calls.quiet_of_same (less_any _ _ _)))
                go_wp2
                go_roundg (y - 1)
                case measure => omega
                case rel => exact ⟨y - 1, by go_num, by omega, by omega, by omega, by rw [← HY.out]; exact (scanDown_go _ e x y hle (by omega) (by rw [← HG.out, ← HG.out, HL.out])).symm, HSy.out.drewN _⟩
            · go_wp2
              go_quiet (first | (go_at_call 19; refine Calls.quiet_of_same (less_any _ _ _)))
              go_wp2
              go_meet
              case rel => exact ⟨y, rfl, by omega, by omega, by rw [← HY.out]; exact (scanDown_end _ e x y (.inl hle)).symm, HSy.out.drewN _⟩
        case rest =>
          clear HSx
          obtain ⟨y, rfl, hyj, hxy, hY, hSy⟩ := hcut
          have HY := Lib.hid hY
          obtain ⟨G, HG, hc, hf⟩ := hSy.fam
          have HSy := Lib.hid hSy
          clear hY hSy
          by_cases hle : x ≤ y
          · have hlt := scans_lt ltInt a i j e (by omega) HX.out HY.out hle
            go_wp2
            go_region
            go_wp2
            go_roundg (y - 1 + 1 - (x + 1))
            case measure => omega
            case rel => exact ⟨x + 1, y - 1, _, by go_num, by go_num, by omega, by omega, by omega, by omega, HSy.out.swpG HG 1 x y (by omega) (by omega), by rw [← HE.out]; exact (partEq_go ltInt a i j e HX.out HY.out (by omega)).symm⟩
          · go_wp2
            go_ret
            have e1 := partEq_break ltInt a i j e HX.out HY.out (by omega)
            rw [← HE.out, e1]
            exact ⟨rfl, HSy.out⟩
end Go.Proofs.Ybulkbycg
