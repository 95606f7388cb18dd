/-
  The walk of (*groupQueue).next.
-/
import Derived.Test.YbulkbyaqLater
namespace Go.Proofs.Ybulkbyaq
open Go.RowKit

theorem btrans {A B C : World} (h : Below A.heap.size A B) (k : Below B.heap.size B C) : Below A.heap.size A C := h.trans (k.mono h.size)

theorem next_none (x : Nat) (w : World) (h : w.cell? ⟨x, 0, none⟩ = some (.slice none 0 0)) :
    Calls Yba.prog 26 #[.pointer (some ⟨x, 0, none⟩)] w fun e w' => e = .returned (.tuple #[.agg (tm 0), .bool false]) ∧ Below w.heap.size w w' := by
  have lx := lt_of_cell h
  go_enter Yba.func26, Yba.ntmps26
  go_wp2
  exact bodyPost_ret (v := .tuple #[.agg (tm 0), .bool false]) (by simp [results, Yba.results26, go_sem, tm]) rfl ⟨rfl, bal (Below.refl _ w) _⟩

theorem later2 (d f p T : Int) (hT : laterZ (laterZ d f) p = T) (b cap : Nat) (w : World)
    (f0 : w.cell? ⟨b, 0, none⟩ = some (.int .u64 (f % 1000000000))) (f1 : w.cell? ⟨b, 1, none⟩ = some (.int .i64 (f / 1000000000))) (f2 : w.cell? ⟨b, 2, none⟩ = some (.pointer none))
    (p0 : w.cell? ⟨b, 3, none⟩ = some (.int .u64 (p % 1000000000))) (p1 : w.cell? ⟨b, 4, none⟩ = some (.int .i64 (p / 1000000000))) (p2 : w.cell? ⟨b, 5, none⟩ = some (.pointer none)) :
    Calls Yba.prog 25 #[.agg #[.int .u64 (d % 1000000000), .int .i64 (d / 1000000000), .pointer none], .slice (some ⟨b, 0, none⟩) 2 cap] w fun e w' => e = .returned (.agg #[.int .u64 (T % 1000000000), .int .i64 (T / 1000000000), .pointer none]) ∧ Below w.heap.size w w' := by
  subst hT
  exact later_any d [f, p] b cap w (by simp) (fun k hk => match k, hk with | 0, _ => ⟨f0, f1, f2⟩ | 1, _ => ⟨p0, p1, p2⟩)

theorem later1 (d f T : Int) (hT : laterZ d f = T) (b cap : Nat) (w : World)
    (f0 : w.cell? ⟨b, 0, none⟩ = some (.int .u64 (f % 1000000000))) (f1 : w.cell? ⟨b, 1, none⟩ = some (.int .i64 (f / 1000000000))) (f2 : w.cell? ⟨b, 2, none⟩ = some (.pointer none)) :
    Calls Yba.prog 25 #[.agg #[.int .u64 (d % 1000000000), .int .i64 (d / 1000000000), .pointer none], .slice (some ⟨b, 0, none⟩) 1 cap] w fun e w' => e = .returned (.agg #[.int .u64 (T % 1000000000), .int .i64 (T / 1000000000), .pointer none]) ∧ Below w.heap.size w w' := by
  subst hT
  exact later_any d [f] b cap w (by simp) (fun k hk => match k, hk with | 0, _ => ⟨f0, f1, f2⟩)

set_option maxRecDepth 100000 in
set_option maxHeartbeats 1600000 in
theorem next_some (x sa sb : Nat) (d f p T : Int) (hT : laterZ (laterZ d f) p = T) (w : World)
    (c0 : w.cell? ⟨x, 0, none⟩ = some (.slice (some ⟨sa, 0, none⟩) 1 1)) (c1 : w.cell? ⟨sa, 0, none⟩ = some (.pointer (some ⟨sb, 0, none⟩)))
    (d0 : w.cell? ⟨sb, 13, none⟩ = some (.int .u64 (d % 1000000000))) (d1 : w.cell? ⟨sb, 14, none⟩ = some (.int .i64 (d / 1000000000))) (d2 : w.cell? ⟨sb, 15, none⟩ = some (.pointer none))
    (f0 : w.cell? ⟨x, 2, none⟩ = some (.int .u64 (f % 1000000000))) (f1 : w.cell? ⟨x, 3, none⟩ = some (.int .i64 (f / 1000000000))) (f2 : w.cell? ⟨x, 4, none⟩ = some (.pointer none))
    (p0 : w.cell? ⟨x, 5, none⟩ = some (.int .u64 (p % 1000000000))) (p1 : w.cell? ⟨x, 6, none⟩ = some (.int .i64 (p / 1000000000))) (p2 : w.cell? ⟨x, 7, none⟩ = some (.pointer none))
    (b0 : w.cell? ⟨x, 10, none⟩ = some (.pointer none)) :
    Calls Yba.prog 26 #[.pointer (some ⟨x, 0, none⟩)] w fun e w' => e = .returned (.tuple #[.agg (tm T), .bool true]) ∧ Below w.heap.size w w' := by
  have HT := Lib.hid hT
  clear hT
  have lx := lt_of_cell c0
  have la := lt_of_cell c1
  have lb := lt_of_cell d0
  have lx' : x < w.heap.size + 1 := by omega
  have la' : sa < w.heap.size + 1 := by omega
  have lb' : sb < w.heap.size + 1 := by omega
  have lx2 : x < w.heap.size + 1 + 1 := by omega
  have la2 : sa < w.heap.size + 1 + 1 := by omega
  have lb2 : sb < w.heap.size + 1 + 1 := by omega
  go_enter Yba.func26, Yba.ntmps26
  go_wp2
  go_cut [4] (fun a wc => ∃ k, a = .pointer (some ⟨k, 0, none⟩) ∧ Below w.heap.size w wc ∧ (∃ g, wc.rowIs w.heap.size 27 3 g) ∧ w.heap.size < k ∧ wc.cell? ⟨k, 0, none⟩ = some (.int .u64 (T % 1000000000)) ∧ wc.cell? ⟨k, 1, none⟩ = some (.int .i64 (T / 1000000000)) ∧ wc.cell? ⟨k, 2, none⟩ = some (.pointer none))
  case first =>
    go_region_held3 (fun w' => w'.cell? ⟨x, 0, none⟩ = some (.slice (some ⟨sa, 0, none⟩) 1 1) ∧ w'.cell? ⟨sa, 0, none⟩ = some (.pointer (some ⟨sb, 0, none⟩)) ∧
        w'.cell? ⟨sb, 13, none⟩ = some (.int .u64 (d % 1000000000)) ∧ w'.cell? ⟨sb, 14, none⟩ = some (.int .i64 (d / 1000000000)) ∧ w'.cell? ⟨sb, 15, none⟩ = some (.pointer none) ∧
        w'.cell? ⟨x, 2, none⟩ = some (.int .u64 (f % 1000000000)) ∧ w'.cell? ⟨x, 3, none⟩ = some (.int .i64 (f / 1000000000)) ∧ w'.cell? ⟨x, 4, none⟩ = some (.pointer none) ∧
        w'.cell? ⟨x, 5, none⟩ = some (.int .u64 (p % 1000000000)) ∧ w'.cell? ⟨x, 6, none⟩ = some (.int .i64 (p / 1000000000)) ∧ w'.cell? ⟨x, 7, none⟩ = some (.pointer none)) (simp [go_sem, World.cell?_alloc_past, *])
      (first | (go_at_call 25; refine (later2 d f p T HT.out _ 2 _ (by simp [go_sem]) (by simp [go_sem]) (by simp [go_sem]) (by simp [go_sem]) (by simp [go_sem]) (by simp [go_sem])).mono ?_
                rintro e w' ⟨rfl, hb⟩
                first
                | (have hB : Below w.heap.size w w' := btrans (bal (bal (Below.refl _ w) _) _).drew hb
                   have hR : w'.rowIs w.heap.size 27 3 (fun i => if i = 0 then .int .u64 0 else if i = 1 then .int .i64 0 else .pointer none) := below_rowIs hb ((row3 w (.int .u64 0) (.int .i64 0) (.pointer none) 27).alloc _).drew)
                | (have hB : Below w.heap.size w w' := btrans (bal (bal (bal (Below.refl _ w) _) _) _).drew hb
                   have hR : w'.rowIs w.heap.size 27 3 (fun i => if i = 0 then .int .u64 0 else if i = 1 then .int .i64 0 else .pointer none) := below_rowIs hb (((row3 w (.int .u64 0) (.int .i64 0) (.pointer none) 27).alloc _).alloc _).drew
                   have k0 := hb.cell (p := ⟨w.heap.size + 1, 0, none⟩) (by simp)
                   have k1 := hb.cell (p := ⟨w.heap.size + 1, 1, none⟩) (by simp)
                   have k2 := hb.cell (p := ⟨w.heap.size + 1, 2, none⟩) (by simp)
                   have z0 := World.frozen?_of_block (a := ⟨w.heap.size + 1, 0, none⟩) (hb.block (w.heap.size + 1) (by simp))
                   have z1 := World.frozen?_of_block (a := ⟨w.heap.size + 1, 1, none⟩) (hb.block (w.heap.size + 1) (by simp))
                   have z2 := World.frozen?_of_block (a := ⟨w.heap.size + 1, 2, none⟩) (hb.block (w.heap.size + 1) (by simp))
                   have k3 := hb.cell (p := ⟨w.heap.size + 1 + 1, 0, none⟩) (by simp)
                   have k4 := hb.cell (p := ⟨w.heap.size + 1 + 1, 1, none⟩) (by simp)
                   have k5 := hb.cell (p := ⟨w.heap.size + 1 + 1, 2, none⟩) (by simp)
                   have z3 := World.frozen?_of_block (a := ⟨w.heap.size + 1 + 1, 0, none⟩) (hb.block (w.heap.size + 1 + 1) (by simp))
                   have z4 := World.frozen?_of_block (a := ⟨w.heap.size + 1 + 1, 1, none⟩) (hb.block (w.heap.size + 1 + 1) (by simp))
                   have z5 := World.frozen?_of_block (a := ⟨w.heap.size + 1 + 1, 2, none⟩) (hb.block (w.heap.size + 1 + 1) (by simp))
                   simp [go_sem] at k0 k1 k2 z0 z1 z2 k3 k4 k5 z3 z4 z5)
                have h11 := hB.size
                have h12 := cell_kept hB c0
                have h13 := cell_kept hB c1
                have h14 := cell_kept hB d0
                have h15 := cell_kept hB d1
                have h16 := cell_kept hB d2
                have h17 := cell_kept hB f0
                have h18 := cell_kept hB f1
                have h19 := cell_kept hB f2
                have h20 := cell_kept hB p0
                have h21 := cell_kept hB p1
                have h22 := cell_kept hB p2
                have h23 := Nat.lt_of_lt_of_le lx h11
                have h24 := Nat.lt_of_lt_of_le la h11
                have h25 := Nat.lt_of_lt_of_le lb h11))
    all_goals
      clear c0 c1 d0 d1 d2 f0 f1 f2 p0 p1 p2 b0 h12 h13 h14 h15 h16 h17 h18 h19 h20 h21 h22 h23 h24 h25
      have hlt := hR.lt
      go_wp2
      go_meet
      case rel =>
        first
        | exact ⟨_, rfl, bal hB _, ⟨_, hR.alloc _⟩, hlt, by simp [go_sem], by simp [go_sem], by simp [go_sem]⟩
        | exact ⟨_, rfl, bset (bset (bset hB (by omega) _) (by omega) _) (by omega) _, ⟨_, ((hR.setOther (by dsimp only; omega) _).setOther (by dsimp only; omega) _).setOther (by dsimp only; omega) _⟩, by omega, by simp [go_sem, *], by simp [go_sem, *], by simp [go_sem, *]⟩
  case rest =>
    obtain ⟨k, rfl, hB, ⟨g, hR⟩, hk, t0, t1, t2⟩ := hcut
    have h10 := cell_kept hB b0
    have z0 := hR.frozen 0
    have z1 := hR.frozen 1
    have z2 := hR.frozen 2
    have x0 := hR.cell (i := 0) (by omega)
    have x1 := hR.cell (i := 1) (by omega)
    have x2 := hR.cell (i := 2) (by omega)
    clear c0 c1 d0 d1 d2 f0 f1 f2 p0 p1 p2 b0
    have HB := Lib.hid hB
    clear hR hB
    go_wp2
    exact bodyPost_ret (v := .tuple #[.agg (tm T), .bool true]) (by simp [results, Yba.results26, go_sem, tm, *]) rfl ⟨rfl, bset (bset (bset HB.out (Nat.le_refl _) _) (Nat.le_refl _) _) (Nat.le_refl _) _⟩
end Go.Proofs.Ybulkbyaq
