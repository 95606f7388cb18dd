/-
  The walks of dueQueue's methods.
-/
import Derived.Test.YbulkbyaqHeap
import Derived.Deep.OwnRows
import Derived.Deep.RegionHeld3
import Derived.Deep.DeepCutAuto
namespace Go.Proofs.Ybulkbyaq
open Go.RowKit

theorem lt_of_cell {W : World} {b o : Nat} {v : Value} (h : W.cell? ⟨b, o, none⟩ = some v) : b < W.heap.size := by
  rcases Nat.lt_or_ge b W.heap.size with h2 | h2
  · exact h2
  · simp [World.cell?, Array.getElem?_eq_none h2] at h

theorem cell_kept {W W' : World} (hb : Below W.heap.size W W') {b o : Nat} {v : Value} (h : W.cell? ⟨b, o, none⟩ = some v) : W'.cell? ⟨b, o, none⟩ = some v :=
  (hb.cell (p := ⟨b, o, none⟩) (lt_of_cell h)).trans h

set_option maxRecDepth 100000 in
set_option maxHeartbeats 1600000 in
theorem less_raw (b n cap i j s1 s2 : Nat) (M N : Int) (w : World) (hi : i < n) (hj : j < n) (_hn : n ≤ 100000)
    (ci : w.cell? ⟨b, i, none⟩ = some (.pointer (some ⟨s1, 0, none⟩))) (cj : w.cell? ⟨b, j, none⟩ = some (.pointer (some ⟨s2, 0, none⟩)))
    (p10 : w.cell? ⟨s1, 19, none⟩ = some (.int .u64 0)) (p11 : w.cell? ⟨s1, 20, none⟩ = some (.int .i64 0)) (p12 : w.cell? ⟨s1, 21, none⟩ = some (.pointer none))
    (p20 : w.cell? ⟨s2, 19, none⟩ = some (.int .u64 0)) (p21 : w.cell? ⟨s2, 20, none⟩ = some (.int .i64 0)) (p22 : w.cell? ⟨s2, 21, none⟩ = some (.pointer none))
    (d10 : w.cell? ⟨s1, 13, none⟩ = some (.int .u64 (M % 1000000000))) (d11 : w.cell? ⟨s1, 14, none⟩ = some (.int .i64 (M / 1000000000))) (d12 : w.cell? ⟨s1, 15, none⟩ = some (.pointer none))
    (d20 : w.cell? ⟨s2, 13, none⟩ = some (.int .u64 (N % 1000000000))) (d21 : w.cell? ⟨s2, 14, none⟩ = some (.int .i64 (N / 1000000000))) (d22 : w.cell? ⟨s2, 15, none⟩ = some (.pointer none)) :
    Calls Yba.prog 78 #[.slice (some ⟨b, 0, none⟩) n cap, .int .i64 (i : Nat), .int .i64 (j : Nat)] w fun e w' => e = .returned (.bool (decide (M < N))) ∧ Below w.heap.size w w' := by
  have lb := lt_of_cell ci
  have l1 := lt_of_cell p10
  have l2 := lt_of_cell p20
  have lb' : b < w.heap.size + 1 := by omega
  have l1' : s1 < w.heap.size + 1 := by omega
  have l2' : s2 < w.heap.size + 1 := by omega
  go_enter Yba.func78, Yba.ntmps78
  go_wp2
  go_cut [7, 8] (fun a b wc => a = .bool false ∧ b = .bool false ∧ Below w.heap.size w wc ∧ w.heap.size ≤ wc.heap.size)
  case first =>
    go_region_held3 (fun w' => w'.cell? ⟨b, i, none⟩ = some (.pointer (some ⟨s1, 0, none⟩)) ∧ w'.cell? ⟨b, j, none⟩ = some (.pointer (some ⟨s2, 0, none⟩)) ∧
        w'.cell? ⟨s1, 19, none⟩ = some (.int .u64 0) ∧ w'.cell? ⟨s1, 20, none⟩ = some (.int .i64 0) ∧ w'.cell? ⟨s1, 21, none⟩ = some (.pointer none) ∧
        w'.cell? ⟨s2, 19, none⟩ = some (.int .u64 0) ∧ w'.cell? ⟨s2, 20, none⟩ = some (.int .i64 0) ∧ w'.cell? ⟨s2, 21, none⟩ = some (.pointer none)) (simp [go_sem, World.cell?_alloc_past, *])
      (first | (go_at_call 80; refine (isZero_any _).mono ?_; rintro e w' ⟨rfl, rfl⟩))
    all_goals
      go_wp2
      go_meet
      case rel => exact ⟨rfl, rfl, (((Below.refl _ _).alloc (Nat.le_refl _) _).alloc (by simp) _).drew, by simp; omega⟩
  case rest =>
    obtain ⟨rfl, rfl, hbw, hsz⟩ := hcut
    have HB := Lib.hid hbw
    have ci' := cell_kept hbw ci
    have cj' := cell_kept hbw cj
    have e10 := cell_kept hbw d10
    have e11 := cell_kept hbw d11
    have e12 := cell_kept hbw d12
    have e20 := cell_kept hbw d20
    have e21 := cell_kept hbw d21
    have e22 := cell_kept hbw d22
    have lb2 : b < wc.heap.size := by omega
    have l12 : s1 < wc.heap.size := by omega
    have l22 : s2 < wc.heap.size := by omega
    have lb3 : b < wc.heap.size + 1 := by omega
    have l13 : s1 < wc.heap.size + 1 := by omega
    have l23 : s2 < wc.heap.size + 1 := by omega
    clear hbw ci cj d10 d11 d12 d20 d21 d22 p10 p11 p12 p20 p21 p22 lb' l1' l2'
    go_wp2
    go_region_held3 (fun w' => w'.cell? ⟨b, i, none⟩ = some (.pointer (some ⟨s1, 0, none⟩)) ∧ w'.cell? ⟨b, j, none⟩ = some (.pointer (some ⟨s2, 0, none⟩)) ∧
        w'.cell? ⟨s1, 13, none⟩ = some (.int .u64 (M % 1000000000)) ∧ w'.cell? ⟨s1, 14, none⟩ = some (.int .i64 (M / 1000000000)) ∧ w'.cell? ⟨s1, 15, none⟩ = some (.pointer none) ∧
        w'.cell? ⟨s2, 13, none⟩ = some (.int .u64 (N % 1000000000)) ∧ w'.cell? ⟨s2, 14, none⟩ = some (.int .i64 (N / 1000000000)) ∧ w'.cell? ⟨s2, 15, none⟩ = some (.pointer none)) (simp [go_sem, twoBoxes, World.cell?_alloc_past, *])
      (first | (go_at_call 74; refine (before_any M N _).mono ?_; rintro e w' ⟨rfl, rfl⟩))
    go_wp2
    go_ret
    exact ⟨rfl, HB.out.trans ((((Below.refl _ wc).alloc (Nat.le_refl _) _).alloc (by simp) _).drew.mono HB.out.size)⟩
end Go.Proofs.Ybulkbyaq
