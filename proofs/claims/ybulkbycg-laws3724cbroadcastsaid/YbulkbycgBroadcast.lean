/-
  The walk of LawS3724CBroadcast.
-/
import Derived.Test.YbulkbycgRank
import Derived.Deep.QuietTactic
import Derived.BigQuiet
namespace Go.Proofs.Ybulkbycg
open Go.RowKit

set_option maxRecDepth 100000 in
set_option maxHeartbeats 800000 in
theorem broadcast_any (a0 : Option Addr) (len cap : Nat) (j : Int) (c : Nat → Nat) (w : World) (hlen : len ≤ 256) (hj0 : -2147483648 ≤ j) (hj1 : j ≤ 2147483647)
    (hv : ∀ i, i < len → ∃ b off, a0 = some ⟨b, off, none⟩ ∧ b < w.heap.size ∧ c i ≤ 255 ∧ w.cell? ⟨b, off + i, none⟩ = some (.int .u8 (c i : Nat))) :
    Calls Yba.prog 4 #[.slice a0 len cap, .int .i32 j] w fun e w' => e = .returned (.bool true) ∧ Below w.heap.size w w' := by
  have HV : Hid (∀ i, i < len → ∃ b off, a0 = some ⟨b, off, none⟩ ∧ b < w.heap.size ∧ c i ≤ 255 ∧ w.cell? ⟨b, off + i, none⟩ = some (.int .u8 (c i : Nat))) := hv
  have h256 : ¬ (256 < (len : Int)) := by omega
  have hbd := build_nil a0 len cap c w hlen hv
  have HBD := Lib.hid hbd
  clear hv hbd
  go_enter Yba.func4, Yba.ntmps4
  go_wp2_with fail
  refine HBD.out.mono ?_
  rintro e w1 ⟨rfl, hb1, hG⟩
  obtain ⟨oa, h1⟩ := hG.of
  obtain ⟨bb, h2, h3⟩ := hG.base
  have h4 := h3 len (Nat.le_refl _)
  have hp := pre_le c len
  have HG := Lib.hid hG
  have HB1 := Lib.hid hb1
  clear h3 hG HBD hb1
  generalize w.heap.size + 1 + 1 = g at *
  go_wp2
  go_quiet (fail)
  have hmk := run_make_row' (P := Yba.prog) 24 21 (.int .i32 0) 4 Yba.underlying24 info21 rfl .i64 .i64 (pre c len) (by omega) (by omega)
  go_wp2_with fail
  have hS : SentSaid w1 g (pre c len) j (fun _ => true) := fun n W' hn hbW => (sent_nil W' g len (pre c len) c _ (HG.out.kept hbW) n j hn (by omega) rfl).mono fun e w' ⟨h1, h2⟩ => ⟨h1, 0, h2.trans rfl⟩
  have hbr : Below w1.heap.size w1 ((w1.drewN nq).alloc (.cells (madeCells #[.int .i32 0] (pre c len)) 21)) := (below_drewN (Below.refl _ _) nq).alloc (Nat.le_refl _) _
  refine (rank_any w1 g len (pre c len) w1.heap.size (pre c len) c _ _ j (fun _ => .int .i32 0) _ hlen HG.out hS hbr (Nat.le_refl _) (World.rowIs_made (w1.drewN nq) (.int .i32 0) (pre c len) 21) (Nat.le_refl _) (by omega)).mono ?_
  rintro e w2 ⟨rfl, F, hF⟩
  have HF := Lib.hid hF
  have HB2 := Lib.hid (HB1.out.trans (hF.below.mono HB1.out.size))
  clear hF hS hbr h1 h2 h4 HG hmk HB1
  go_wp2
  go_loopg [8, 9] len (fun gh n i wr => ∃ s : Nat, s + gh = len ∧ n = .int .i64 (pre c s : Nat) ∧ i = .int .i64 s ∧ wr = w2)
  case atStart => exact ⟨0, by omega, rfl, rfl, rfl⟩
  case round =>
    obtain ⟨s, hs, rfl, rfl, rfl⟩ := hrel
    by_cases hlt : s < len
    · have hps := pre_mono c (show s + 1 ≤ len by omega)
      rw [pre_succ] at hps
      have hps1 := pre_le c s
      go_wp2
      go_loopg [8, 10] (c s % 8) (fun gh n i wi => ∃ k : Nat, k + gh = c s % 8 ∧ n = .int .i64 (pre c s + k : Nat) ∧ i = .int .i64 k ∧ wi = wr)
      case atStart => exact ⟨0, by omega, rfl, rfl, rfl⟩
      case round =>
        obtain ⟨k, hk, rfl, rfl, rfl⟩ := hrel
        obtain ⟨b, off, rfl, hb, hc8, hcell0⟩ := HV.out s hlt
        have hcell := (HB2.out.cell (p := ⟨b, off + s, none⟩) hb).trans hcell0
        clear hcell0
        by_cases hlt2 : k < c s % 8
        · have hr := HF.out.row.cell (i := pre c s + k) (by omega)
          rw [HF.out.done s hlt k hlt2, cnt_all] at hr
          go_wp2
          go_roundg (gk - 1)
          case measure => omega
          case rel => exact ⟨k + 1, by omega, by go_num, by go_num, rfl⟩
        · have hke : k = c s % 8 := by omega
          go_wp2
          go_roundg (len - (s + 1))
          case measure => omega
          case rel => exact ⟨s + 1, by omega, val_int (by rw [pre_succ, hke]), by go_num, rfl⟩
    · go_wp2
      go_ret
      exact ⟨rfl, HB2.out⟩
end Go.Proofs.Ybulkbycg
