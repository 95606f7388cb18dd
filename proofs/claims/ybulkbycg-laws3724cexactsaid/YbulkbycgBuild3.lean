/-
  The walk of zzs3724cbuild (5) at whatever lists.
-/
import Derived.Test.YbulkbycgBuild2
namespace Go.Proofs.Ybulkbycg
open Go.RowKit Go.Sort

set_option maxRecDepth 100000 in
set_option maxHeartbeats 1000000 in
theorem build_any (a0 : Option Addr) (len cap : Nat) (t0 : Option Addr) (tl tcap : Nat) (c : Nat → Nat) (w : World) (hlen : len ≤ 256) (htl : tl ≤ 1024) (ht : TArg w t0 tl)
    (hv : ∀ i, i < len → ∃ b off, a0 = some ⟨b, off, none⟩ ∧ b < w.heap.size ∧ c i ≤ 255 ∧ w.cell? ⟨b, off + i, none⟩ = some (.int .u8 (c i : Nat))) :
    Calls Yba.prog 5 #[.slice a0 len cap, .slice t0 tl tcap] w fun e w' => e = .returned (.pointer (some ⟨w.heap.size + 1 + 1, 0, none⟩)) ∧ RowKit.Below w.heap.size w w' ∧ ∃ T, GroupIs w' (w.heap.size + 1 + 1) len (pre c len) c T ∧ AllSrt T := by
  have hmk1 := run_make_row' (P := Yba.prog) 27 80 (.pointer none) 8 Yba.underlying27 info80 rfl .i64 .i64 len (by omega) (by omega)
  have hmk2 := run_make_row' (P := Yba.prog) 29 3 (.int .i64 0) 8 Yba.underlying29 info3 rfl .i64 .i64 (len + 1) (by omega) (by omega)
  rw [show ((len + 1 : Nat) : Int) = (len : Int) + 1 by omega] at hmk2
  have HV := Lib.hid hv
  have HT := Lib.hid ht
  clear hv ht
  go_enter Yba.func5, Yba.ntmps5
  go_wp2
  go_cut [6] (fun g wc => ∃ ob bb, g = .pointer (some ⟨w.heap.size + 1 + 1, 0, none⟩) ∧ Base w wc ob bb len 0 c)
  case first =>
    go_region
    · go_wp2
      go_meet
      case rel => exact ⟨_, _, rfl, base_start1 w len c⟩
    · go_wp2
      go_meet
      case rel => exact ⟨_, _, rfl, base_start2 w len c⟩
  case rest =>
    clear hmk1 hmk2
    obtain ⟨ob, bb, rfl, hB⟩ := hcut
    go_wp2
    go_loopg [7] len (fun g i wr => ∃ s : Nat, s + g = len ∧ i = .int .i64 s ∧ Base w wr ob bb len s c)
    case atStart => exact ⟨0, by omega, rfl, hB⟩
    case round =>
      obtain ⟨s, hs, rfl, hBs⟩ := hrel
      clear hB
      by_cases hlt : s < len
      · obtain ⟨b, off, rfl, hb, hc8, hcell0⟩ := HV.out s hlt
        have hcell := (hBs.below.cell (p := ⟨b, off + s, none⟩) hb).trans hcell0
        clear hcell0
        have g4 := hBs.grp.cell (i := 4) (by omega)
        have b1 := hBs.base.cell (i := s) (by omega)
        have b2 := hBs.base.cell (i := s + 1) (by omega)
        have f2 := hBs.base.frozen (s + 1)
        simp only [grpCells, baseCells] at g4 b1 b2
        simp at g4 b1 b2
        have hp := pre_le c s
        have HBs := Lib.hid hBs
        clear hBs
        go_wp2
        go_region
        go_wp2
        go_roundg (gk - 1)
        case measure => omega
        case rel => exact ⟨s + 1, by omega, by go_num, base_step HBs.out⟩
      · have hsl : s = len := by omega
        subst hsl
        have g4 := hBs.grp.cell (i := 4) (by omega)
        have g6 := hBs.grp.cell (i := 6) (by omega)
        have f6 := hBs.grp.frozen 6
        have b1 := hBs.base.cell (i := s) (by omega)
        have hsz := hBs.size
        simp only [grpCells, baseCells] at g4 g6 b1
        simp at g4 g6 b1
        have hp := pre_le c s
        have hmk3 := run_make_row' (P := Yba.prog) 23 24 (.slice none 0 0) 24 Yba.underlying23 info24 rfl .i64 .i64 (pre c s) (by omega) (by omega)
        have HBs := Lib.hid hBs
        clear hBs
        go_wp2
        clear hmk3 g4 g6 b1 f6 hsz
        go_loopg [9, 10] (pre c s) (fun g i _ wt => ∃ (n : Nat) (T : Nat → Option (List Int)) (X : Nat → Nat), n + g = pre c s ∧ i = .int .i64 n ∧ Tos w wt ob bb s (pre c s) n c T X ∧ AllSrt T ∧ ∀ m, n ≤ m → T m = none)
        case atStart => exact ⟨0, fun _ => none, fun _ => 0, by omega, rfl, tos_start HBs.out _ _ _, fun m l h => by simp at h, fun _ _ => rfl⟩
        case round =>
          obtain ⟨n, T, X, hn, rfl, hT, hA, hN⟩ := hrel
          have hxc := fun (w : World) (a : Option Addr) (l k : Nat) => Go.run_neq_slice_nil (P := Yba.prog) w 24 21 a l k Yba.underlying24
          have HA := Lib.hid hA
          have HN := Lib.hid hN
          clear hA hN HBs
          by_cases hlt2 : n < pre c s
          · by_cases hnt : n < tl
            · obtain ⟨b, o, U, L, C, rfl, hb, hcell0, hI⟩ := HT.out n hnt
              have hcell := (hT.below.cell (p := ⟨b, o + n, none⟩) hb).trans hcell0
              clear hcell0
              cases U with
              | none =>
                have HTo := Lib.hid hT
                clear hT
                go_wp2
                go_roundg (gk - 1)
                case measure => omega
                case rel => exact ⟨n + 1, T, X, by omega, by go_num, HTo.out.skip (HN.out n (Nat.le_refl _)), HA.out, fun m hm => HN.out m (by omega)⟩
              | some u =>
                obtain ⟨W2, d0, hcp, hSW⟩ := copy_run w wr hT.below (some u) L C hI
                have hL := hI.1
                have hmk := run_make_row' (P := Yba.prog) 24 21 (.int .i32 0) 4 Yba.underlying24 info21 rfl .i64 .i64 L (by omega) (by omega)
                have hbw : b < wr.heap.size := Nat.lt_of_lt_of_le hb hT.below.size
                have hcell2 : (wr.alloc (.cells (madeCells #[.int .i32 0] L) 21)).cell? ⟨b, o + n, none⟩ = some (.slice (some u) L C) := (((RowKit.Below.refl wr.heap.size wr).alloc (Nat.le_refl _) _).cell (p := ⟨b, o + n, none⟩) hbw).trans hcell
                have HTo := Lib.hid hT
                have hsrt := sort_any wr W2 wr.heap.size 0 L L d0 hSW hL
                have HSO := Lib.hid hsrt
                clear hT hI hSW hsrt
                go_wp2_with fail
                refine HSO.out.mono ?_
                rintro e w3 ⟨rfl, R, hR, _, hRs⟩
                have hnew := new_row hR
                have hRl : R.toList.length = L := by rw [Array.length_toList, hR.size]
                have hT3 := HTo.out.kept hnew.1
                have g6 := hT3.grp.cell (i := 6) (by omega)
                have t1 := hT3.tor.cell (i := n) hlt2
                have t2 := hT3.tor.frozen n
                have hput := hT3.put wr.heap.size R.toList HTo.out.size hnew.2
                rw [hRl] at hput
                have hall := HA.out.put n R.toList (by rw [hRl]; exact hL) (srt_of hR.size hRs)
                have HPU := Lib.hid hput
                have HAL := Lib.hid hall
                simp only [grpCells] at g6
                simp at g6
                clear hput hall hT3 hnew hR hRs HSO hcp hmk hcell2 hcell
                go_wp2
                go_roundg (gk - 1)
                case measure => omega
                case rel => exact ⟨n + 1, _, _, by omega, by go_num, HPU.out, HAL.out, fun m hm => by
                  show (if m = n then _ else T m) = none
                  rw [if_neg (by omega)]
                  exact HN.out m (by omega)⟩
            · have HTo := Lib.hid hT
              clear hT
              go_wp2
              go_roundg (gk - 1)
              case measure => omega
              case rel => exact ⟨n + 1, T, X, by omega, by go_num, HTo.out.skip (HN.out n (Nat.le_refl _)), HA.out, fun m hm => HN.out m (by omega)⟩
          · have hne : n = pre c s := by omega
            go_wp2
            go_ret
            rw [hne] at hT
            exact ⟨rfl, hT.below, T, hT.group, HA.out⟩
end Go.Proofs.Ybulkbycg
