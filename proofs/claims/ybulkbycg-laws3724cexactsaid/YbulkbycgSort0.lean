/-
  slices.Sort at int32: the words that its walks share. SW: the row at block B holds d; every other block of the world w is as it was.
-/
import Derived.Test.YbulkbycgProg
import Derived.WalkKit
import Derived.BigGuard
import Derived.BigCall
import Derived.CellFam
import Derived.Deep.Draws
import Derived.Deep.OwnRows
import Derived.Deep.QuietTactic
import Derived.BigQuiet
import Derived.BigRegion
import Derived.Deep.LoopGhost
import Derived.Deep.DeepCutAuto
import Derived.Deep.CutBlock
import Derived.Lib.Hide
import Derived.Sort.WalkA
import Derived.Sort.WalkA6
import Derived.Sort.WalkB2
import Derived.Sort.WalkB3
import Derived.Sort.WalkC
import Derived.Sort.WalkC4
import Derived.Sort.Walk13a
import Derived.Sort.AssemblyPlain
namespace Go.Proofs.Ybulkbycg
open Go.RowKit Go.Sort

/-- Every block of w but B is as it was. -/
structure Aside (B : Nat) (w w' : World) : Prop where
  os : w'.os = w.os
  tape : w'.tape = w.tape
  output : w'.output = w.output
  size : w.heap.size ≤ w'.heap.size
  block : ∀ k, k < w.heap.size → k ≠ B → w'.heap[k]? = w.heap[k]?

theorem Aside.refl (B : Nat) (w : World) : Aside B w w := ⟨rfl, rfl, rfl, Nat.le_refl _, fun _ _ _ => rfl⟩
theorem Aside.drewN {B : Nat} {w w' : World} (h : Aside B w w') (q : Nat) : Aside B w (w'.drewN q) := ⟨h.os, h.tape, h.output, h.size, h.block⟩
theorem Aside.set {B : Nat} {w w' : World} (h : Aside B w w') (o : Nat) (v : Value) : Aside B w (w'.setCell ⟨B, o, none⟩ v) :=
  ⟨h.os, h.tape, h.output, by simpa [World.setCell] using h.size, fun k hk hB => (RowKit.Below.heap_setCell _ _ _ _ (by simpa using hB)).trans (h.block k hk hB)⟩
theorem Aside.setNew {B : Nat} {w w' : World} (h : Aside B w w') {a : Addr} (ha : w.heap.size ≤ a.block) (v : Value) : Aside B w (w'.setCell a v) :=
  ⟨h.os, h.tape, h.output, by simpa [World.setCell] using h.size, fun k hk hB => (RowKit.Below.heap_setCell _ _ _ _ (by omega)).trans (h.block k hk hB)⟩
theorem Aside.alloc {B : Nat} {w w' : World} (h : Aside B w w') (o : Obj) : Aside B w (w'.alloc o) :=
  ⟨h.os, h.tape, h.output, by have := h.size; simp; omega, fun k hk hB => (RowKit.Below.heap_alloc _ _ _ (by have := h.size; omega)).trans (h.block k hk hB)⟩

/-- The row at B, from off on, holds d; every other block of w is as it was. -/
structure SW (w wr : World) (B off n : Nat) (d : Array Int) : Prop where
  aside : Aside B w wr
  size : d.size = n
  row : ∃ F, wr.rowIs B 21 (off + n) F ∧ ∀ t, t < n → F (off + t) = .int .i32 d[t]!

theorem SW.cell {w wr : World} {B off n : Nat} {d : Array Int} (h : SW w wr B off n d) (t : Nat) (ht : t < n) : wr.cell? ⟨B, off + t, none⟩ = some (.int .i32 d[t]!) := by
  obtain ⟨F, h1, h2⟩ := h.row
  exact (h1.cell (i := off + t) (by omega)).trans (by rw [h2 t ht])
theorem SW.frz {w wr : World} {B off n : Nat} {d : Array Int} (h : SW w wr B off n d) (t : Nat) (_ht : t < n) : wr.frozen? ⟨B, off + t, none⟩ = false := by
  obtain ⟨F, h1, _⟩ := h.row
  exact h1.frozen _
theorem SW.ltB {w wr : World} {B off n : Nat} {d : Array Int} (h : SW w wr B off n d) : B < wr.heap.size := by
  obtain ⟨F, h1, _⟩ := h.row
  exact h1.lt
/-- What a round of a walk takes of it: a name for the contents. -/
theorem SW.fam {w wr : World} {B off n : Nat} {d : Array Int} (h : SW w wr B off n d) : ∃ G : Nat → Int, Hid (∀ t, G t = d[t]!) ∧ (∀ t, t < n → wr.cell? ⟨B, off + t, none⟩ = some (.int .i32 (G t))) ∧ ∀ t, t < n → wr.frozen? ⟨B, off + t, none⟩ = false :=
  ⟨fun t => d[t]!, fun _ => rfl, h.cell, h.frz⟩
theorem SW.drewN {w wr : World} {B off n : Nat} {d : Array Int} (h : SW w wr B off n d) (q : Nat) : SW w (wr.drewN q) B off n d := by
  obtain ⟨F, h1, h2⟩ := h.row
  exact ⟨h.aside.drewN q, h.size, F, h1.of_block rfl, h2⟩
theorem SW.drew {w wr : World} {B off n : Nat} {d : Array Int} (h : SW w wr B off n d) : SW w wr.drew B off n d := h.drewN 1
theorem SW.set {w wr : World} {B off n : Nat} {d : Array Int} (h : SW w wr B off n d) (i : Nat) (x : Int) (hi : i < n) : SW w (wr.setCell ⟨B, off + i, none⟩ (.int .i32 x)) B off n (d.setIfInBounds i x) := by
  obtain ⟨F, h1, h2⟩ := h.row
  have hs := h.size
  refine ⟨h.aside.set _ _, by simpa using hs, _, h1.set (off + i) (.int .i32 x), fun t ht => ?_⟩
  show (if off + t = off + i then _ else F (off + t)) = _
  by_cases e : t = i
  · subst e; rw [if_pos rfl, getElem!_set_same d t x (by omega)]
  · rw [if_neg (by omega), h2 t ht, getElem!_set_other d i t x e]
/-- The two stores of a swap. -/
theorem SW.swp {w wr : World} {B off n : Nat} {d : Array Int} (h : SW w wr B off n d) (q i j : Nat) (hi : i < n) (hj : j < n) :
    SW w (((wr.drewN q).setCell ⟨B, off + i, none⟩ (.int .i32 d[j]!)).setCell ⟨B, off + j, none⟩ (.int .i32 d[i]!)) B off n (swp d i j) :=
  ((h.drewN q).set i _ hi).set j _ hj
theorem SW.swpG {w wr : World} {B off n : Nat} {d : Array Int} {G : Nat → Int} (h : SW w wr B off n d) (HG : Hid (∀ t, G t = d[t]!)) (q i j : Nat) (hi : i < n) (hj : j < n) :
    SW w (((wr.drewN q).setCell ⟨B, off + i, none⟩ (.int .i32 (G j))).setCell ⟨B, off + j, none⟩ (.int .i32 (G i))) B off n (Sort.swp d i j) := by
  rw [HG.out, HG.out]
  exact h.swp q i j hi hj
theorem SW.alloc {w wr : World} {B off n : Nat} {d : Array Int} (h : SW w wr B off n d) (o : Obj) : SW w (wr.alloc o) B off n d := by
  obtain ⟨F, h1, h2⟩ := h.row
  exact ⟨h.aside.alloc o, h.size, F, h1.alloc o, h2⟩
theorem SW.setNew {w wr : World} {B off n : Nat} {d : Array Int} (h : SW w wr B off n d) {a : Addr} (ha : w.heap.size ≤ a.block) (hB : a.block ≠ B) (v : Value) : SW w (wr.setCell a v) B off n d := by
  obtain ⟨F, h1, h2⟩ := h.row
  exact ⟨h.aside.setNew ha v, h.size, F, h1.setOther (Ne.symm hB) v, h2⟩

set_option maxHeartbeats 1000000 in
theorem isNaN_any (x : Int) (w : World) : Calls Yba.prog 30 #[.int .i32 x] w fun e w' => e = .returned (.bool false) ∧ w' = w := by
  go_enter Yba.func30, Yba.ntmps30
  go_wp2
  go_ret
  exact ⟨by simp, rfl⟩

set_option maxHeartbeats 1000000 in
theorem sisNaN_any (x : Int) (w : World) : Calls Yba.prog 24 #[.int .i32 x] w fun e w' => e = .returned (.bool false) ∧ w' = w := by
  go_enter Yba.func24, Yba.ntmps24
  go_wp2
  go_ret
  exact ⟨by simp, rfl⟩

set_option maxHeartbeats 1000000 in
theorem less_any (x y : Int) (w : World) : Calls Yba.prog 19 #[.int .i32 x, .int .i32 y] w fun e w' => e = .returned (.bool (ltInt x y)) ∧ w' = w := by
  go_enter Yba.func19, Yba.ntmps19
  go_wp2_with (go_at_call 30; refine (isNaN_any _ _).mono ?_; rintro e w' ⟨rfl, rfl⟩)
  go_ret
  exact ⟨rfl, rfl⟩
end Go.Proofs.Ybulkbycg
