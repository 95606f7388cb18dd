/-
  A group's queue in memory; groupHeap's Less and Swap; container/heap's Fix over it.
-/
import Derived.Test.YbulkbyaqNext
import Derived.Test.YbulkbyaqGHeap
namespace Go.Proofs.Ybulkbyaq
open Go.RowKit

/-- What 'next' answers in every world that keeps what stood. -/
def NextM (W : World) (x : Nat) (N : Int) (b : Bool) : Prop :=
  ∀ W', Below W.heap.size W W' → Calls Yba.prog 26 #[.pointer (some ⟨x, 0, none⟩)] W' fun e w' => e = .returned (.tuple #[.agg (tm N), .bool b]) ∧ Below W'.heap.size W' w'

set_option maxRecDepth 100000 in
set_option maxHeartbeats 1600000 in
theorem gless_raw (g n cap i j s1 s2 : Nat) (M N : Int) (b1 b2 : Bool) (w : World) (hi : i < n) (hj : j < n) (_hn : n ≤ 100000)
    (ci : w.cell? ⟨g, i, none⟩ = some (.pointer (some ⟨s1, 0, none⟩))) (cj : w.cell? ⟨g, j, none⟩ = some (.pointer (some ⟨s2, 0, none⟩)))
    (m1 : NextM w s1 M b1) (m2 : NextM w s2 N b2) :
    Calls Yba.prog 72 #[.slice (some ⟨g, 0, none⟩) n cap, .int .i64 (i : Nat), .int .i64 (j : Nat)] w fun e w' => (∃ b, e = .returned (.bool b)) ∧ Below w.heap.size w w' := by
  have H1 := Lib.hid m1
  have H2 := Lib.hid m2
  have HJ := Lib.hid cj
  have lg := lt_of_cell ci
  clear m1 m2 cj
  go_enter Yba.func72, Yba.ntmps72
  go_wp2_with fail
  refine (H1.out w (Below.refl _ _)).mono ?_
  rintro e w1 ⟨rfl, hb1⟩
  have cj1 := cell_kept hb1 HJ.out
  have lg1 := lt_of_cell cj1
  have HB1 := Lib.hid hb1
  clear hb1 ci
  unfold tm
  go_wp2_with fail
  refine (H2.out _ (bal HB1.out _)).mono ?_
  rintro e w2 ⟨rfl, hb2⟩
  have q0 := cell_kept hb2 (b := w1.heap.size) (o := 0) (v := .int .u64 (M % 1000000000)) (by simp [go_sem])
  have q1 := cell_kept hb2 (b := w1.heap.size) (o := 1) (v := .int .i64 (M / 1000000000)) (by simp [go_sem])
  have q2 := cell_kept hb2 (b := w1.heap.size) (o := 2) (v := .pointer none) (by simp [go_sem])
  have lq := lt_of_cell q0
  have HB2 := Lib.hid (btrans (bal HB1.out _) hb2)
  clear hb2 cj1
  unfold tm
  by_cases hb : b1 = b2
  · have hbb : (b1 == b2) = true := by simp [hb]
    go_wp2_with fail
    refine (before_any M N _).mono ?_
    rintro e w3 ⟨rfl, rfl⟩
    go_wp2
    go_ret
    exact ⟨⟨_, rfl⟩, bal (bal (bal HB2.out _) _) _⟩
  · have hbb : (b1 == b2) = false := by simpa using hb
    go_wp2
    go_ret
    exact ⟨⟨_, rfl⟩, bal HB2.out _⟩

set_option maxRecDepth 100000 in
set_option maxHeartbeats 1600000 in
theorem gswap_raw (b n cap i j s1 s2 : Nat) (v1 v2 : Value) (w : World) (hi : i < n) (hj : j < n) (_hn : n ≤ 100000) (hij : i ≠ j) (hs : s1 ≠ s2) (hb1 : s1 ≠ b) (hb2 : s2 ≠ b)
    (ci : w.cell? ⟨b, i, none⟩ = some (.pointer (some ⟨s1, 0, none⟩))) (cj : w.cell? ⟨b, j, none⟩ = some (.pointer (some ⟨s2, 0, none⟩)))
    (fi : w.frozen? ⟨b, i, none⟩ = false) (fj : w.frozen? ⟨b, j, none⟩ = false)
    (x1 : w.cell? ⟨s1, 11, none⟩ = some v1) (x2 : w.cell? ⟨s2, 11, none⟩ = some v2) (f1 : w.frozen? ⟨s1, 11, none⟩ = false) (f2 : w.frozen? ⟨s2, 11, none⟩ = false) :
    Calls Yba.prog 73 #[.slice (some ⟨b, 0, none⟩) n cap, .int .i64 (i : Nat), .int .i64 (j : Nat)] w fun e w' => e = .returned (.tuple #[]) ∧ w' = ((((w.setCell ⟨b, i, none⟩ (.pointer (some ⟨s2, 0, none⟩))).setCell ⟨b, j, none⟩ (.pointer (some ⟨s1, 0, none⟩))).setCell ⟨s2, 11, none⟩ (.int .i64 (i : Nat))).setCell ⟨s1, 11, none⟩ (.int .i64 (j : Nat))).drew.drew := by
  go_enter Yba.func73, Yba.ntmps73
  go_wp2
  go_region
  go_wp2
  go_region
  go_wp2
  go_end0
  exact ⟨rfl, rfl⟩
end Go.Proofs.Ybulkbyaq
