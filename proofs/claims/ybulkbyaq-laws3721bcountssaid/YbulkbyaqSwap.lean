/-
  The walk of dueQueue's Swap.
-/
import Derived.Test.YbulkbyaqDue
import Derived.BigRegion
namespace Go.Proofs.Ybulkbyaq
open Go.RowKit

set_option maxRecDepth 100000 in
set_option maxHeartbeats 1600000 in
theorem swap_raw (b n cap i j s1 s2 : Nat) (v1 v2 : Value) (w : World) (hi : i < n) (hj : j < n) (_hn : n ≤ 100000) (hij : i ≠ j) (hs : s1 ≠ s2) (hb1 : s1 ≠ b) (hb2 : s2 ≠ b)
    (ci : w.cell? ⟨b, i, none⟩ = some (.pointer (some ⟨s1, 0, none⟩))) (cj : w.cell? ⟨b, j, none⟩ = some (.pointer (some ⟨s2, 0, none⟩)))
    (fi : w.frozen? ⟨b, i, none⟩ = false) (fj : w.frozen? ⟨b, j, none⟩ = false)
    (x1 : w.cell? ⟨s1, 26, none⟩ = some v1) (x2 : w.cell? ⟨s2, 26, none⟩ = some v2) (f1 : w.frozen? ⟨s1, 26, none⟩ = false) (f2 : w.frozen? ⟨s2, 26, none⟩ = false) :
    Calls Yba.prog 79 #[.slice (some ⟨b, 0, none⟩) n cap, .int .i64 (i : Nat), .int .i64 (j : Nat)] w fun e w' => e = .returned (.tuple #[]) ∧ w' = ((((w.setCell ⟨b, i, none⟩ (.pointer (some ⟨s2, 0, none⟩))).setCell ⟨b, j, none⟩ (.pointer (some ⟨s1, 0, none⟩))).setCell ⟨s2, 26, none⟩ (.int .i64 (i : Nat))).setCell ⟨s1, 26, none⟩ (.int .i64 (j : Nat))).drew.drew := by
  go_enter Yba.func79, Yba.ntmps79
  go_wp2
  go_region
  go_wp2
  go_region
  go_wp2
  go_end0
  exact ⟨rfl, rfl⟩

set_option maxRecDepth 100000 in
set_option maxHeartbeats 1600000 in
theorem swap_same (b n cap i s1 : Nat) (v1 : Value) (w : World) (hi : i < n) (_hn : n ≤ 100000) (hb1 : s1 ≠ b)
    (ci : w.cell? ⟨b, i, none⟩ = some (.pointer (some ⟨s1, 0, none⟩))) (fi : w.frozen? ⟨b, i, none⟩ = false)
    (x1 : w.cell? ⟨s1, 26, none⟩ = some v1) (f1 : w.frozen? ⟨s1, 26, none⟩ = false) :
    Calls Yba.prog 79 #[.slice (some ⟨b, 0, none⟩) n cap, .int .i64 (i : Nat), .int .i64 (i : Nat)] w fun e w' => e = .returned (.tuple #[]) ∧ w' = ((((w.setCell ⟨b, i, none⟩ (.pointer (some ⟨s1, 0, none⟩))).setCell ⟨b, i, none⟩ (.pointer (some ⟨s1, 0, none⟩))).setCell ⟨s1, 26, none⟩ (.int .i64 (i : Nat))).setCell ⟨s1, 26, none⟩ (.int .i64 (i : Nat))).drew.drew := by
  go_enter Yba.func79, Yba.ntmps79
  go_wp2
  go_region
  go_wp2
  go_region
  go_wp2
  go_end0
  exact ⟨rfl, rfl⟩
end Go.Proofs.Ybulkbyaq
