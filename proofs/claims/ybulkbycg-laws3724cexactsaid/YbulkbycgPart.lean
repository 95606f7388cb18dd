/-
  slices.partitionOrdered at int32 (21).
-/
import Derived.Test.YbulkbycgSort0
namespace Go.Proofs.Ybulkbycg
open Go.RowKit Go.Sort

set_option maxRecDepth 100000 in
set_option maxHeartbeats 4000000 in
theorem part_any (w wr : World) (B off n cap a b pivot : Nat) (d : Array Int) (hS : SW w wr B off n d) (hap : a ≤ pivot) (hpb : pivot < b) (hb : b ≤ n) (hn : n ≤ 1024) :
    Calls Yba.prog 21 #[.slice (some ⟨B, off, none⟩) n cap, .int .i64 a, .int .i64 b, .int .i64 pivot] wr fun e w' => e = .returned (.tuple #[.int .i64 (partition ltInt d a b pivot).1, .bool (partition ltInt d a b pivot).2.1]) ∧ SW w w' B off n (partition ltInt d a b pivot).2.2 := by
  obtain ⟨G, HG, hc, hf⟩ := hS.fam
  have HS := Lib.hid hS
  clear hS
  go_enter Yba.func21, Yba.ntmps21
  go_wp2
  go_cut [] (fun wc => SW w wc B off n (Sort.swp d a pivot))
  case first =>
    by_cases hpa : pivot = a
    · subst hpa
      go_region
      go_wp2
      go_meet
      case rel => exact HS.out.swpG HG 1 pivot pivot (by omega) (by omega)
    · go_region
      go_wp2
      go_meet
      case rel => exact HS.out.swpG HG 1 a pivot (by omega) (by omega)
  case rest =>
    clear hc hf HG HS
    obtain ⟨i, hi⟩ : ∃ i, i = a + 1 := ⟨_, rfl⟩
    obtain ⟨j, hjj⟩ : ∃ j, j = b - 1 := ⟨_, rfl⟩
    obtain ⟨e, he⟩ : ∃ e, e = Sort.swp d a pivot := ⟨_, rfl⟩
    have HI := Lib.hid hi
    have HJ := Lib.hid hjj
    have HD := Lib.hid he
    have hiz : (a : Int) + 1 = (i : Int) := by omega
    have hjz : (b : Int) - 1 = (j : Int) := by omega
    have hai : a < i := by omega
    have hij : i ≤ j + 2 := by omega
    have haj : a ≤ j := by omega
    have hj : j < n := by omega
    rw [← he] at hcut
    have HS := Lib.hid hcut
    clear hcut hi hjj he
    go_upto_block 0 with fail
    go_cut [10] (fun vi wc => ∃ x, vi = .int .i64 (x : Nat) ∧ i ≤ x ∧ x ≤ j + 2 ∧ x = scanUp (fun x => ltInt x e[a]!) e j i ∧ SW w wc B off n e)
    case first =>
      clear HI HJ HD
      go_wp2
      go_loopg [10] (j + 2) (fun g vi wi => ∃ (x : Nat), vi = .int .i64 x ∧ x + g = j + 2 + i ∧ i ≤ x ∧ x ≤ j + 2 ∧ scanUp (fun x => ltInt x e[a]!) e j x = scanUp (fun x => ltInt x e[a]!) e j i ∧ SW w wi B off n e)
      case atStart => exact ⟨i, rfl, by omega, by omega, by omega, rfl, HS.out⟩
      case round =>
        obtain ⟨x, rfl, hxg, hix, hxj, hX, hSx⟩ := hrel
        have HX := Lib.hid hX
        obtain ⟨G, HG, hc, hf⟩ := hSx.fam
        have HSx := Lib.hid hSx
        clear hX hSx HS
        by_cases hle : x ≤ j
        · cases hl : ltInt (G x) (G a)
          · have HL := Lib.hid hl
            go_wp2
            go_quiet (first | (go_at_call 19; refine Calls.quiet_of_same (less_any _ _ _)))
            go_wp2
            go_meet
            case rel => exact ⟨x, rfl, by omega, by omega, by rw [← HX.out]; exact (scanUp_end _ e j x (.inr (by rw [← HG.out, ← HG.out, HL.out]))).symm, HSx.out.drewN _⟩
          · have HL := Lib.hid hl
            go_wp2
            go_quiet (first | (go_at_call 19; refine Calls.quiet_of_same (less_any _ _ _)))
            go_wp2
            go_roundg (gk - 1)
            case measure => omega
            case rel => exact ⟨x + 1, by go_num, by omega, by omega, by omega, by rw [← HX.out]; exact (scanUp_go _ e j x hle (by rw [← HG.out, ← HG.out, HL.out])).symm, HSx.out.drewN _⟩
        · go_wp2
          go_quiet (first | (go_at_call 19; refine Calls.quiet_of_same (less_any _ _ _)))
          go_wp2
          go_meet
          case rel => exact ⟨x, rfl, by omega, by omega, by rw [← HX.out]; exact (scanUp_end _ e j x (.inl hle)).symm, HSx.out.drewN _⟩
    case rest =>
      clear HS
      obtain ⟨x, rfl, hix, hxj, hX, hSx⟩ := hcut
      have HX := Lib.hid hX
      have HSx := Lib.hid hSx
      clear hX hSx
      go_upto_block 2 with fail
      go_cut [11] (fun vj wc => ∃ y, vj = .int .i64 (y : Nat) ∧ y ≤ j ∧ x ≤ y + 2 ∧ a ≤ y ∧ y = scanDown (fun x => !ltInt x e[a]!) e x j ∧ SW w wc B off n e)
      case first =>
        clear HI HJ HD
        clear HX
        go_wp2
        go_loopg [11] j (fun g vj wi => ∃ (y : Nat), vj = .int .i64 y ∧ y = g ∧ y ≤ j ∧ x ≤ y + 2 ∧ a ≤ y ∧ scanDown (fun x => !ltInt x e[a]!) e x y = scanDown (fun x => !ltInt x e[a]!) e x j ∧ SW w wi B off n e)
        case atStart => exact ⟨j, rfl, rfl, by omega, by omega, by omega, rfl, HSx.out⟩
        case round =>
          obtain ⟨y, rfl, hyg, hyj, hxy, hay, hY, hSy⟩ := hrel
          subst hyg
          have HY := Lib.hid hY
          obtain ⟨G, HG, hc, hf⟩ := hSy.fam
          have HSy := Lib.hid hSy
          clear hY hSy HSx
          by_cases hle : x ≤ y
          · cases hl : ltInt (G y) (G a)
            · have HL := Lib.hid hl
              go_wp2
              go_quiet (first | (go_at_call 19; refine Calls.quiet_of_same (less_any _ _ _)))
              go_wp2
              go_roundg (y - 1)
              case measure => omega
              case rel => exact ⟨y - 1, by go_num, by omega, by omega, by omega, by omega, by rw [← HY.out]; exact (scanDown_go _ e x y hle (by omega) (by rw [← HG.out, ← HG.out, HL.out]; rfl)).symm, HSy.out.drewN _⟩
            · have HL := Lib.hid hl
              go_wp2
              go_quiet (first | (go_at_call 19; refine Calls.quiet_of_same (less_any _ _ _)))
              go_wp2
              go_meet
              case rel => exact ⟨y, rfl, by omega, by omega, by omega, by rw [← HY.out]; exact (scanDown_end _ e x y (.inr (by rw [← HG.out, ← HG.out, HL.out]; rfl))).symm, HSy.out.drewN _⟩
          · go_wp2
            go_quiet (first | (go_at_call 19; refine Calls.quiet_of_same (less_any _ _ _)))
            go_wp2
            go_meet
            case rel => exact ⟨y, rfl, by omega, by omega, by omega, by rw [← HY.out]; exact (scanDown_end _ e x y (.inl hle)).symm, HSy.out.drewN _⟩
      case rest =>
        clear HSx
        obtain ⟨y, rfl, hyj, hxy, hay, hY, hSy⟩ := hcut
        have HY := Lib.hid hY
        obtain ⟨G, HG, hc, hf⟩ := hSy.fam
        have HSy := Lib.hid hSy
        clear hY hSy
        by_cases hle : x ≤ y
        · have hlt := part_scans_lt ltInt a i j e (by omega) HX.out HY.out hle
          have hgo := part_first_go ltInt d a b pivot HI.out HJ.out HD.out HX.out HY.out (by omega)
          have HP := Lib.hid hgo
          clear hgo
          obtain ⟨R, hR⟩ : ∃ R, R = partLoop ltInt a (x + 1) (y - 1) (Sort.swp e x y) := ⟨_, rfl⟩
          have HR := Lib.hid hR
          have HP2 := Lib.hid (show partition ltInt d a b pivot = (R.1, false, Sort.swp R.2 R.1 a) by rw [HP.out, HR.out])
          clear hR HP
          go_wp2
          go_region
          go_wp2
          go_loopg [10, 11] n (fun g vi vj wi => ∃ (i j : Nat) (e : Array Int), vi = .int .i64 i ∧ vj = .int .i64 j ∧ j + 1 - i ≤ g ∧ a < i ∧ i ≤ j + 2 ∧ a ≤ j ∧ j < n ∧ SW w wi B off n e ∧ partLoop ltInt a i j e = R)
          case atStart => exact ⟨x + 1, y - 1, _, by go_num, by go_num, by omega, by omega, by omega, by omega, by omega, HSy.out.swpG HG 1 x y (by omega) (by omega), HR.out.symm⟩
          case round =>
            have HP := HP2
            clear HP2 HR HX HY HI HJ HD HSy HG hc hf hle hlt hix hxj hyj hxy hay hai hij haj hj hpb hap

            obtain ⟨i, j, e, rfl, rfl, hg, hai, hij, haj, hj, hSi, hE⟩ := hrel
            have HE := Lib.hid hE
            have HS := Lib.hid hSi
            clear hE hSi
            go_upto_block 6 with fail
            go_cut [10] (fun vi wc => ∃ x, vi = .int .i64 (x : Nat) ∧ i ≤ x ∧ x ≤ j + 2 ∧ x = scanUp (fun x => ltInt x e[a]!) e j i ∧ SW w wc B off n e)
            case first =>
              clear HE HP
              go_wp2
              go_loopg [10] (j + 2) (fun g vi wi => ∃ (x : Nat), vi = .int .i64 x ∧ x + g = j + 2 + i ∧ i ≤ x ∧ x ≤ j + 2 ∧ scanUp (fun x => ltInt x e[a]!) e j x = scanUp (fun x => ltInt x e[a]!) e j i ∧ SW w wi B off n e)
              case atStart => exact ⟨i, rfl, by omega, by omega, by omega, rfl, HS.out⟩
              case round =>
                obtain ⟨x, rfl, hxg, hix, hxj, hX, hSx⟩ := hrel
                have HX := Lib.hid hX
                obtain ⟨G, HG, hc, hf⟩ := hSx.fam
                have HSx := Lib.hid hSx
                clear hX hSx HS
                by_cases hle : x ≤ j
                · cases hl : ltInt (G x) (G a)
                  · have HL := Lib.hid hl
                    go_wp2
                    go_quiet (first | (go_at_call 19; refine Calls.quiet_of_same (less_any _ _ _)))
                    go_wp2
                    go_meet
                    case rel => exact ⟨x, rfl, by omega, by omega, by rw [← HX.out]; exact (scanUp_end _ e j x (.inr (by rw [← HG.out, ← HG.out, HL.out]))).symm, HSx.out.drewN _⟩
                  · have HL := Lib.hid hl
                    go_wp2
                    go_quiet (first | (go_at_call 19; refine Calls.quiet_of_same (less_any _ _ _)))
                    go_wp2
                    go_roundg (gk - 1)
                    case measure => omega
                    case rel => exact ⟨x + 1, by go_num, by omega, by omega, by omega, by rw [← HX.out]; exact (scanUp_go _ e j x hle (by rw [← HG.out, ← HG.out, HL.out])).symm, HSx.out.drewN _⟩
                · go_wp2
                  go_quiet (first | (go_at_call 19; refine Calls.quiet_of_same (less_any _ _ _)))
                  go_wp2
                  go_meet
                  case rel => exact ⟨x, rfl, by omega, by omega, by rw [← HX.out]; exact (scanUp_end _ e j x (.inl hle)).symm, HSx.out.drewN _⟩
            case rest =>
              clear HS
              obtain ⟨x, rfl, hix, hxj, hX, hSx⟩ := hcut
              have HX := Lib.hid hX
              have HSx := Lib.hid hSx
              clear hX hSx
              go_upto_block 8 with fail
              go_cut [11] (fun vj wc => ∃ y, vj = .int .i64 (y : Nat) ∧ y ≤ j ∧ x ≤ y + 2 ∧ a ≤ y ∧ y = scanDown (fun x => !ltInt x e[a]!) e x j ∧ SW w wc B off n e)
              case first =>
                clear HE HP
                clear HX
                go_wp2
                go_loopg [11] j (fun g vj wi => ∃ (y : Nat), vj = .int .i64 y ∧ y = g ∧ y ≤ j ∧ x ≤ y + 2 ∧ a ≤ y ∧ scanDown (fun x => !ltInt x e[a]!) e x y = scanDown (fun x => !ltInt x e[a]!) e x j ∧ SW w wi B off n e)
                case atStart => exact ⟨j, rfl, rfl, by omega, by omega, by omega, rfl, HSx.out⟩
                case round =>
                  obtain ⟨y, rfl, hyg, hyj, hxy, hay, hY, hSy⟩ := hrel
                  subst hyg
                  have HY := Lib.hid hY
                  obtain ⟨G, HG, hc, hf⟩ := hSy.fam
                  have HSy := Lib.hid hSy
                  clear hY hSy HSx
                  by_cases hle : x ≤ y
                  · cases hl : ltInt (G y) (G a)
                    · have HL := Lib.hid hl
                      go_wp2
                      go_quiet (first | (go_at_call 19; refine Calls.quiet_of_same (less_any _ _ _)))
                      go_wp2
                      go_roundg (y - 1)
                      case measure => omega
                      case rel => exact ⟨y - 1, by go_num, by omega, by omega, by omega, by omega, by rw [← HY.out]; exact (scanDown_go _ e x y hle (by omega) (by rw [← HG.out, ← HG.out, HL.out]; rfl)).symm, HSy.out.drewN _⟩
                    · have HL := Lib.hid hl
                      go_wp2
                      go_quiet (first | (go_at_call 19; refine Calls.quiet_of_same (less_any _ _ _)))
                      go_wp2
                      go_meet
                      case rel => exact ⟨y, rfl, by omega, by omega, by omega, by rw [← HY.out]; exact (scanDown_end _ e x y (.inr (by rw [← HG.out, ← HG.out, HL.out]; rfl))).symm, HSy.out.drewN _⟩
                  · go_wp2
                    go_quiet (first | (go_at_call 19; refine Calls.quiet_of_same (less_any _ _ _)))
                    go_wp2
                    go_meet
                    case rel => exact ⟨y, rfl, by omega, by omega, by omega, by rw [← HY.out]; exact (scanDown_end _ e x y (.inl hle)).symm, HSy.out.drewN _⟩
              case rest =>
                clear HSx
                obtain ⟨y, rfl, hyj, hxy, hay, hY, hSy⟩ := hcut
                have HY := Lib.hid hY
                obtain ⟨G, HG, hc, hf⟩ := hSy.fam
                have HSy := Lib.hid hSy
                clear hY hSy
                by_cases hle : x ≤ y
                · have hlt := part_scans_lt ltInt a i j e (by omega) HX.out HY.out hle
                  go_wp2
                  go_region
                  go_wp2
                  go_roundg (y - 1 + 1 - (x + 1))
                  case measure => omega
                  case rel => exact ⟨x + 1, y - 1, _, by go_num, by go_num, by omega, by omega, by omega, by omega, by omega, HSy.out.swpG HG 1 x y (by omega) (by omega), by rw [← HE.out]; exact (part_go ltInt a i j e HX.out HY.out (by omega)).symm⟩
                · have hbr := part_break ltInt a i j e HX.out HY.out (by omega)
                  have HBR := Lib.hid hbr
                  clear hbr
                  by_cases hya : y = a
                  · subst hya
                    go_wp2
                    go_region
                    go_wp2
                    go_ret2
                    rw [HP.out, ← HE.out, HBR.out]
                    exact ⟨rfl, HSy.out.swpG HG 1 y y (by omega) (by omega)⟩
                  · go_wp2
                    go_region
                    go_wp2
                    go_ret2
                    rw [HP.out, ← HE.out, HBR.out]
                    exact ⟨rfl, HSy.out.swpG HG 1 y a (by omega) (by omega)⟩

        · have hbr := part_first_break ltInt d a b pivot HI.out HJ.out HD.out HX.out HY.out (by omega)
          have HBR := Lib.hid hbr
          clear hbr
          by_cases hya : y = a
          · subst hya
            go_wp2
            go_region
            go_wp2
            go_ret2
            rw [HBR.out]
            exact ⟨rfl, HSy.out.swpG HG 1 y y (by omega) (by omega)⟩
          · go_wp2
            go_region
            go_wp2
            go_ret2
            rw [HBR.out]
            exact ⟨rfl, HSy.out.swpG HG 1 y a (by omega) (by omega)⟩

end Go.Proofs.Ybulkbycg
