/-
  The walk of LawS3721CPopLast.
-/
import Derived.Test.YbulkbyaqPop
import Derived.Deep.QuietTactic
import Derived.BigQuiet
import Derived.Lib.Builder
namespace Go.Proofs.Ybulkbyaq
open Go.RowKit

theorem info46 : (Yba.prog.info? 46).map (fun i => (i.zero, i.size, i.bytes)) = some (some (.pointer none), 1, 8) := by kernel_rfl
theorem info3 : (Yba.prog.info? 3).map (fun i => (i.zero, i.size, i.bytes)) = some (some (.int .i64 0), 1, 8) := by kernel_rfl

/-- The pointers that are laid when k slots are made, the first of them in block N. -/
def ptrsTo (N k : Nat) : Nat → Value := fun j => if j < k then .pointer (some ⟨N + j, 0, none⟩) else .pointer none
/-- The numbers that are laid when k of them are. -/
def valsTo (V : Nat → Int) (k : Nat) : Nat → Value := fun j => if j < k then .int .i64 (V j) else .int .i64 0

/-- What holds at the first loop's head, k slots made. -/
structure Fill (w wr : World) (len k : Nat) (V : Nat → Int) : Prop where
  below : Below w.heap.size w wr
  size : wr.heap.size = w.heap.size + 1 + 1 + 1 + 1 + k
  q : wr.rowIs w.heap.size 46 (len + 1) (ptrsTo (w.heap.size + 1 + 1 + 1 + 1) k)
  qv : wr.rowIs (w.heap.size + 1) 40 1 (fun _ => .slice (some ⟨w.heap.size, 0, none⟩) (len + 1) (len + 1))
  ptrs : wr.rowIs (w.heap.size + 1 + 1) 46 (len + 1) (ptrsTo (w.heap.size + 1 + 1 + 1 + 1) k)
  vals : wr.rowIs (w.heap.size + 1 + 1 + 1) 3 (len + 1) (valsTo V k)
  slots : ∀ j, j < k → ∃ n f, 26 < n ∧ wr.rowIs (w.heap.size + 1 + 1 + 1 + 1 + j) 62 n f ∧ f 26 = .int .i64 (V j)

theorem fill_start (w : World) (len : Nat) (V : Nat → Int) :
    Fill w ((((w.alloc (.cells (madeCells #[.pointer none] (len + 1)) 46)).alloc (.cells #[.slice (some ⟨w.heap.size, 0, none⟩) (len + 1) (len + 1)] 40)).alloc (.cells (madeCells #[.pointer none] (len + 1)) 46)).alloc (.cells (madeCells #[.int .i64 0] (len + 1)) 3)) len 0 V := by
  have r0 := World.rowIs_made w (.pointer none) (len + 1) 46
  have r1 := World.rowIs_alloc (w.alloc (.cells (madeCells #[.pointer none] (len + 1)) 46)) #[.slice (some ⟨w.heap.size, 0, none⟩) (len + 1) (len + 1)] 40 (fun _ => .slice (some ⟨w.heap.size, 0, none⟩) (len + 1) (len + 1)) (fun i hi => by
    have : i = 0 := by simp at hi; omega
    subst this; rfl)
  have r2 := World.rowIs_made ((w.alloc (.cells (madeCells #[.pointer none] (len + 1)) 46)).alloc (.cells #[.slice (some ⟨w.heap.size, 0, none⟩) (len + 1) (len + 1)] 40)) (.pointer none) (len + 1) 46
  have r3 := World.rowIs_made (((w.alloc (.cells (madeCells #[.pointer none] (len + 1)) 46)).alloc (.cells #[.slice (some ⟨w.heap.size, 0, none⟩) (len + 1) (len + 1)] 40)).alloc (.cells (madeCells #[.pointer none] (len + 1)) 46)) (.int .i64 0) (len + 1) 3
  simp only [World.size_alloc] at r1 r2 r3
  refine ⟨((((Below.refl _ _).alloc (Nat.le_refl _) _).alloc (by simp) _).alloc (by simp; omega) _).alloc (by simp; omega) _, by simp, ?_, ?_, ?_, ?_, fun j hj => absurd hj (Nat.not_lt_zero _)⟩
  · exact (((r0.alloc _).alloc _).alloc _).congr (fun j _ => by simp [ptrsTo])
  · exact (r1.alloc _).alloc _
  · exact (r2.alloc _).congr (fun j _ => by simp [ptrsTo])
  · exact r3.congr (fun j _ => by simp [valsTo])

theorem fill_step {w wr : World} {len k : Nat} {V : Nat → Int} (h : Fill w wr len k V) (hk : k ≤ len) (x : Int) (hx : x = V k) (c : Array Value) (hn : 26 < c.size) (hc : c[26]? = some (.int .i64 x)) :
    Fill w ((((wr.setCell ⟨w.heap.size + 1 + 1 + 1, k, none⟩ (.int .i64 x)).setCell ⟨w.heap.size, k, none⟩ (.pointer (some ⟨w.heap.size + 1 + 1 + 1 + 1 + k, 0, none⟩))).setCell ⟨w.heap.size + 1 + 1, k, none⟩ (.pointer (some ⟨w.heap.size + 1 + 1 + 1 + 1 + k, 0, none⟩))).alloc (.cells c 62)) len (k + 1) V := by
  subst hx
  have hs := h.size
  refine ⟨?_, by simp [hs]; omega, ?_, ?_, ?_, ?_, ?_⟩
  · refine (((h.below.setCell ?_ _).setCell ?_ _).setCell ?_ _).alloc ?_ _
    · show w.heap.size ≤ w.heap.size + 1 + 1 + 1; omega
    · exact Nat.le_refl _
    · show w.heap.size ≤ w.heap.size + 1 + 1; omega
    · simp [hs]; omega
  · refine (((((h.q.setOther (by show w.heap.size ≠ w.heap.size + 1 + 1 + 1; omega) _).set k _).setOther (by show w.heap.size ≠ w.heap.size + 1 + 1; omega) _)).alloc _).congr fun j hj => ?_
    simp only [ptrsTo]
    by_cases e : j = k
    · subst e; simp
    · rw [if_neg e]
      by_cases hlt : j < k
      · rw [if_pos hlt, if_pos (by omega)]
      · rw [if_neg hlt, if_neg (by omega)]
  · exact (((h.qv.setOther (by show w.heap.size + 1 ≠ w.heap.size + 1 + 1 + 1; omega) _).setOther (by show w.heap.size + 1 ≠ w.heap.size; omega) _).setOther (by show w.heap.size + 1 ≠ w.heap.size + 1 + 1; omega) _).alloc _
  · refine (((((h.ptrs.setOther (by show w.heap.size + 1 + 1 ≠ w.heap.size + 1 + 1 + 1; omega) _).setOther (by show w.heap.size + 1 + 1 ≠ w.heap.size; omega) _)).set k _).alloc _).congr fun j hj => ?_
    simp only [ptrsTo]
    by_cases e : j = k
    · subst e; simp
    · rw [if_neg e]
      by_cases hlt : j < k
      · rw [if_pos hlt, if_pos (by omega)]
      · rw [if_neg hlt, if_neg (by omega)]
  · refine ((((h.vals.set k _).setOther (by show w.heap.size + 1 + 1 + 1 ≠ w.heap.size; omega) _).setOther (by show w.heap.size + 1 + 1 + 1 ≠ w.heap.size + 1 + 1; omega) _).alloc _).congr fun j hj => ?_
    simp only [valsTo]
    by_cases e : j = k
    · subst e; simp
    · rw [if_neg e]
      by_cases hlt : j < k
      · rw [if_pos hlt, if_pos (by omega)]
      · rw [if_neg hlt, if_neg (by omega)]
  · intro j hj
    by_cases e : j = k
    · subst e
      have r := World.rowIs_alloc (((wr.setCell ⟨w.heap.size + 1 + 1 + 1, j, none⟩ (.int .i64 (V j))).setCell ⟨w.heap.size, j, none⟩ (.pointer (some ⟨w.heap.size + 1 + 1 + 1 + 1 + j, 0, none⟩))).setCell ⟨w.heap.size + 1 + 1, j, none⟩ (.pointer (some ⟨w.heap.size + 1 + 1 + 1 + 1 + j, 0, none⟩))) c 62 (fun i => c[i]?.getD undef) (fun i hi => by rw [Array.getElem?_eq_getElem hi]; rfl)
      have e1 : (((wr.setCell ⟨w.heap.size + 1 + 1 + 1, j, none⟩ (.int .i64 (V j))).setCell ⟨w.heap.size, j, none⟩ (.pointer (some ⟨w.heap.size + 1 + 1 + 1 + 1 + j, 0, none⟩))).setCell ⟨w.heap.size + 1 + 1, j, none⟩ (.pointer (some ⟨w.heap.size + 1 + 1 + 1 + 1 + j, 0, none⟩))).heap.size = w.heap.size + 1 + 1 + 1 + 1 + j := by simp [hs]
      rw [e1] at r
      exact ⟨_, _, hn, r, by rw [hc]; rfl⟩
    · obtain ⟨n, f, h1, h2, h3⟩ := h.slots j (by omega)
      exact ⟨n, f, h1, (((h2.setOther (by show w.heap.size + 1 + 1 + 1 + 1 + j ≠ w.heap.size + 1 + 1 + 1; omega) _).setOther (by show w.heap.size + 1 + 1 + 1 + 1 + j ≠ w.heap.size; omega) _).setOther (by show w.heap.size + 1 + 1 + 1 + 1 + j ≠ w.heap.size + 1 + 1; omega) _).alloc _, h3⟩

/-- What holds behind the call of Pop. -/
structure Done (w wp : World) (len : Nat) (V : Nat → Int) : Prop where
  below : Below w.heap.size w wp
  q : ∀ j, j < len → wp.cell? ⟨w.heap.size, j, none⟩ = some (.pointer (some ⟨w.heap.size + 1 + 1 + 1 + 1 + j, 0, none⟩))
  qlast : wp.cell? ⟨w.heap.size, len, none⟩ = some (.pointer none)
  qv : wp.cell? ⟨w.heap.size + 1, 0, none⟩ = some (.slice (some ⟨w.heap.size, 0, none⟩) len (len + 1))
  ptrs : ∀ j, j ≤ len → wp.cell? ⟨w.heap.size + 1 + 1, j, none⟩ = some (.pointer (some ⟨w.heap.size + 1 + 1 + 1 + 1 + j, 0, none⟩))
  vals : ∀ j, j < len → wp.cell? ⟨w.heap.size + 1 + 1 + 1, j, none⟩ = some (.int .i64 (V j))
  slots : ∀ j, j < len → wp.cell? ⟨w.heap.size + 1 + 1 + 1 + 1 + j, 26, none⟩ = some (.int .i64 (V j))
  slast : wp.cell? ⟨w.heap.size + 1 + 1 + 1 + 1 + len, 26, none⟩ = some (.int .i64 (-1))

theorem done_of {w wr : World} {len : Nat} {V : Nat → Int} (h : Fill w wr len (len + 1) V) :
    Done w (((wr.setCell ⟨w.heap.size, len, none⟩ (.pointer none)).setCell ⟨w.heap.size + 1, 0, none⟩ (.slice (some ⟨w.heap.size, 0, none⟩) len (len + 1))).setCell ⟨w.heap.size + 1 + 1 + 1 + 1 + len, 26, none⟩ (.int .i64 (-1))) len V := by
  have hq := ((h.q.set len (.pointer none)).setOther (a := ⟨w.heap.size + 1, 0, none⟩) (by show w.heap.size ≠ w.heap.size + 1; omega) (.slice (some ⟨w.heap.size, 0, none⟩) len (len + 1))).setOther (a := ⟨w.heap.size + 1 + 1 + 1 + 1 + len, 26, none⟩) (by show w.heap.size ≠ w.heap.size + 1 + 1 + 1 + 1 + len; omega) (.int .i64 (-1))
  have hqv := ((h.qv.setOther (a := ⟨w.heap.size, len, none⟩) (by show w.heap.size + 1 ≠ w.heap.size; omega) (.pointer none)).set 0 (.slice (some ⟨w.heap.size, 0, none⟩) len (len + 1))).setOther (a := ⟨w.heap.size + 1 + 1 + 1 + 1 + len, 26, none⟩) (by show w.heap.size + 1 ≠ w.heap.size + 1 + 1 + 1 + 1 + len; omega) (.int .i64 (-1))
  have hp := ((h.ptrs.setOther (a := ⟨w.heap.size, len, none⟩) (by show w.heap.size + 1 + 1 ≠ w.heap.size; omega) (.pointer none)).setOther (a := ⟨w.heap.size + 1, 0, none⟩) (by show w.heap.size + 1 + 1 ≠ w.heap.size + 1; omega) (.slice (some ⟨w.heap.size, 0, none⟩) len (len + 1))).setOther (a := ⟨w.heap.size + 1 + 1 + 1 + 1 + len, 26, none⟩) (by show w.heap.size + 1 + 1 ≠ w.heap.size + 1 + 1 + 1 + 1 + len; omega) (.int .i64 (-1))
  have hvl := ((h.vals.setOther (a := ⟨w.heap.size, len, none⟩) (by show w.heap.size + 1 + 1 + 1 ≠ w.heap.size; omega) (.pointer none)).setOther (a := ⟨w.heap.size + 1, 0, none⟩) (by show w.heap.size + 1 + 1 + 1 ≠ w.heap.size + 1; omega) (.slice (some ⟨w.heap.size, 0, none⟩) len (len + 1))).setOther (a := ⟨w.heap.size + 1 + 1 + 1 + 1 + len, 26, none⟩) (by show w.heap.size + 1 + 1 + 1 ≠ w.heap.size + 1 + 1 + 1 + 1 + len; omega) (.int .i64 (-1))
  refine ⟨?_, fun j hj => ?_, ?_, ?_, fun j hj => ?_, fun j hj => ?_, fun j hj => ?_, ?_⟩
  · refine ((h.below.setCell ?_ _).setCell ?_ _).setCell ?_ _
    · exact Nat.le_refl _
    · show w.heap.size ≤ w.heap.size + 1; omega
    · show w.heap.size ≤ w.heap.size + 1 + 1 + 1 + 1 + len; omega
  · rw [hq.cell (i := j) (by omega)]
    simp only [ptrsTo]
    rw [if_neg (by omega), if_pos (by omega)]
  · rw [hq.cell (i := len) (by omega)]
    simp
  · rw [hqv.cell (i := 0) (by omega)]
    simp
  · rw [hp.cell (i := j) (by omega)]
    simp only [ptrsTo]
    rw [if_pos (by omega)]
  · rw [hvl.cell (i := j) (by omega)]
    simp only [valsTo]
    rw [if_pos (by omega)]
  · obtain ⟨n, f, h1, h2, h3⟩ := h.slots j (by omega)
    have hx := ((h2.setOther (a := ⟨w.heap.size, len, none⟩) (by show w.heap.size + 1 + 1 + 1 + 1 + j ≠ w.heap.size; omega) (.pointer none)).setOther (a := ⟨w.heap.size + 1, 0, none⟩) (by show w.heap.size + 1 + 1 + 1 + 1 + j ≠ w.heap.size + 1; omega) (.slice (some ⟨w.heap.size, 0, none⟩) len (len + 1))).setOther (a := ⟨w.heap.size + 1 + 1 + 1 + 1 + len, 26, none⟩) (by show w.heap.size + 1 + 1 + 1 + 1 + j ≠ w.heap.size + 1 + 1 + 1 + 1 + len; omega) (.int .i64 (-1))
    rw [hx.cell (i := 26) h1, h3]
  · obtain ⟨n, f, h1, h2, h3⟩ := h.slots len (by omega)
    have hx := ((h2.setOther (a := ⟨w.heap.size, len, none⟩) (by show w.heap.size + 1 + 1 + 1 + 1 + len ≠ w.heap.size; omega) (.pointer none)).setOther (a := ⟨w.heap.size + 1, 0, none⟩) (by show w.heap.size + 1 + 1 + 1 + 1 + len ≠ w.heap.size + 1; omega) (.slice (some ⟨w.heap.size, 0, none⟩) len (len + 1))).set 26 (.int .i64 (-1))
    rw [hx.cell (i := 26) h1]
    simp

theorem Done.drewN {w wp : World} {len : Nat} {V : Nat → Int} (h : Done w wp len V) (n : Nat) : Done w (wp.drewN n) len V :=
  ⟨below_drewN h.below n, fun j hj => by rw [World.cell?_drewN]; exact h.q j hj, by rw [World.cell?_drewN]; exact h.qlast, by rw [World.cell?_drewN]; exact h.qv, fun j hj => by rw [World.cell?_drewN]; exact h.ptrs j hj,
    fun j hj => by rw [World.cell?_drewN]; exact h.vals j hj, fun j hj => by rw [World.cell?_drewN]; exact h.slots j hj, by rw [World.cell?_drewN]; exact h.slast⟩
theorem Done.drew {w wp : World} {len : Nat} {V : Nat → Int} (h : Done w wp len V) : Done w wp.drew len V := ⟨h.below.drew, h.q, h.qlast, h.qv, h.ptrs, h.vals, h.slots, h.slast⟩

theorem neq_same (a : Addr) (w : World) : (binOp .neq 46 (.pointer (some a)) (.pointer (some a))).run Yba.prog w = .ok (.bool false) w := by
  obtain ⟨j, hj⟩ := Option.isSome_iff_exists.1 (show (Yba.prog.info? 62).isSome = true by kernel_rfl)
  exact Lib.run_neq_ptr_same w a Yba.underlying46 hj

theorem assert_slot (a : Addr) (w : World) : (Instr.typeAssert (.iface 46 (.pointer (some a))) 20 46 true).run Yba.prog w = .ok (.tuple #[.pointer (some a), .bool true]) w := by kernel_rfl

set_option maxRecDepth 100000 in
set_option maxHeartbeats 400000 in
theorem poplast_any (a0 : Option Addr) (len cap : Nat) (V : Nat → Int) (w : World) (hlen : len ≤ 1024)
    (hv : ∀ i, i < len → ∃ b off, a0 = some ⟨b, off, none⟩ ∧ b < w.heap.size ∧ w.cell? ⟨b, off + i, none⟩ = some (.int .i64 (V i))) (hV : V len = len) :
    Calls Yba.prog 4 #[.slice a0 len cap] w fun e w' => e = .returned (.bool true) ∧ Below w.heap.size w w' := by
  have hmk1 := run_make_row' (P := Yba.prog) 40 46 (.pointer none) 8 Yba.underlying40 info46 rfl .i64 .i64 (len + 1) (by omega) (by omega)
  have hmk2 := run_make_row' (P := Yba.prog) 32 46 (.pointer none) 8 Yba.underlying32 info46 rfl .i64 .i64 (len + 1) (by omega) (by omega)
  have hmk3 := run_make_row' (P := Yba.prog) 71 3 (.int .i64 0) 8 Yba.underlying71 info3 rfl .i64 .i64 (len + 1) (by omega) (by omega)
  rw [show ((len + 1 : Nat) : Int) = (len : Int) + 1 by omega] at hmk1 hmk2 hmk3
  have HV : Hid (V len = len) := hV
  have HVV : Hid (∀ i, i < len → ∃ b off, a0 = some ⟨b, off, none⟩ ∧ b < w.heap.size ∧ w.cell? ⟨b, off + i, none⟩ = some (.int .i64 (V i))) := hv
  have h1024 : ¬ (1024 < (len : Int)) := by omega
  clear hV hv
  go_enter Yba.func4, Yba.ntmps4
  go_wp2
  clear hmk1 hmk2 hmk3
  go_loopg [7] (len + 1) (fun g i wr => ∃ k : Nat, k + g = len + 1 ∧ i = .int .i64 k ∧ Fill w wr len k V)
  case atStart =>
    exact ⟨0, by omega, rfl, fill_start w len V⟩
  case round =>
    obtain ⟨k, hk, rfl, hF⟩ := hrel
    by_cases hlt : k < len + 1
    · have c1 := hF.qv.cell (i := 0) (by omega)
      have f3 := hF.vals.frozen k
      have c3 := hF.vals.cell (i := k) (by omega)
      have f0 := hF.q.frozen k
      have c0 := hF.q.cell (i := k) (by omega)
      have f2 := hF.ptrs.frozen k
      have c2 := hF.ptrs.cell (i := k) (by omega)
      have hsz := hF.size
      simp only [ptrsTo, valsTo, Nat.lt_irrefl, if_false] at c0 c2 c3
      have g0 : w.heap.size < w.heap.size + 1 + 1 + 1 + 1 + k := by omega
      have g1 : w.heap.size + 1 < w.heap.size + 1 + 1 + 1 + 1 + k := by omega
      have g2 : w.heap.size + 1 + 1 < w.heap.size + 1 + 1 + 1 + 1 + k := by omega
      have g3 : w.heap.size + 1 + 1 + 1 < w.heap.size + 1 + 1 + 1 + 1 + k := by omega
      have HF : Hid (Fill w wr len k V) := hF
      clear hF
      by_cases hl : k < len
      · obtain ⟨b, off, rfl, hb, hcell0⟩ := HVV.out k hl
        have hcell := (HF.out.below.cell (p := ⟨b, off + k, none⟩) hb).trans hcell0
        clear hcell0
        go_wp2
        go_roundg (len - k)
        case measure => omega
        case rel =>
          exact ⟨k + 1, by omega, by go_num, fill_step HF.out (by omega) (V k) rfl _ (by simp) rfl⟩
      · go_wp2
        go_roundg (len - k)
        case measure => omega
        case rel =>
          have hkl : k = len := by omega
          exact ⟨k + 1, by omega, by go_num, fill_step HF.out (by omega) (k : Int) (by rw [hkl]; exact HV.out.symm) _ (by simp) rfl⟩
    · have hke : k = len + 1 := by omega
      subst hke
      have c1 := hF.qv.cell (i := 0) (by omega)
      have HF : Hid (Fill w wr len (len + 1) V) := hF
      clear hF
      go_wp2_with fail
      obtain ⟨n, f, hn, hrow, hf26⟩ := HF.out.slots len (by omega)
      refine (pop_any (w.heap.size + 1) w.heap.size (w.heap.size + 1 + 1 + 1 + 1 + len) len (len + 1) (f 26) wr c1 (HF.out.qv.frozen 0) ((HF.out.q.cell (i := len) (by omega)).trans (by simp [ptrsTo])) (HF.out.q.frozen len) (hrow.cell hn) (hrow.frozen 26) (by omega) (by omega) (by omega) (by omega) (by omega)).mono ?_
      rintro e wp ⟨rfl, hwp⟩
      have hD : Done w wp len V := by rw [hwp]; exact done_of HF.out
      clear hwp hrow hf26 HF c1 hn
      have HD : Hid (Done w wp len V) := hD
      have q1 := hD.ptrs len (Nat.le_refl _)
      have q2 := hD.slast
      have q3 := hD.qv
      have q4 := hD.qlast
      clear hD
      have has := assert_slot
      have hns := neq_same
      go_wp2
      clear q1 q2 q3 q4 has
      go_loopg [13] len (fun g i wi => ∃ k : Nat, k + g = len ∧ i = .int .i64 k ∧ Done w wi len V)
      case atStart => exact ⟨0, by omega, rfl, HD.out⟩
      case round =>
        obtain ⟨k, hk2, rfl, hDi⟩ := hrel
        clear HD
        by_cases hlt2 : k < len
        · have r0 := hDi.q k hlt2
          have r1 := hDi.qv
          have r2 := hDi.ptrs k (by omega)
          have r3 := hDi.vals k hlt2
          have r4 := hDi.slots k hlt2
          have HDi : Hid (Done w wr len V) := hDi
          clear hDi
          go_wp2
          go_quiet (fail)
          go_wp2
          go_roundg (gk - 1)
          case measure => omega
          case rel => exact ⟨k + 1, by omega, by go_num, HDi.out.drewN _⟩
        · go_wp2
          go_ret
          exact ⟨rfl, hDi.below⟩
end Go.Proofs.Ybulkbyaq
