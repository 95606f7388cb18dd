/-
  zzs3724cbuild (5) at whatever lists: each list of the group is in order.
-/
import Derived.Test.YbulkbycgBuild
import Derived.Test.YbulkbycgSearch
import Derived.Laws.CopyOwn
import Derived.Lib.LazyBuf
namespace Go.Proofs.Ybulkbycg
open Go.RowKit Go.Sort

theorem info21s : (Yba.prog.info? 21).map (·.size) = some 1 := by kernel_rfl

/-- A list that came in. -/
def InRow (w : World) (U : Option Addr) (L : Nat) : Prop :=
  L ≤ 1024 ∧ ∃ l : Nat → Int, ∀ i, i < L → ∃ b o, U = some ⟨b, o, none⟩ ∧ b < w.heap.size ∧ w.cell? ⟨b, o + i, none⟩ = some (.int .i32 (l i))
/-- The lists that came in. -/
def TArg (w : World) (t0 : Option Addr) (tl : Nat) : Prop :=
  ∀ m, m < tl → ∃ b o U L C, t0 = some ⟨b, o, none⟩ ∧ b < w.heap.size ∧ w.cell? ⟨b, o + m, none⟩ = some (.slice U L C) ∧ InRow w U L

/-- make and copy: the new row. -/
theorem copy_run (w0 wt : World) (hb : RowKit.Below w0.heap.size w0 wt) (U : Option Addr) (L C : Nat) (hI : InRow w0 U L) : ∃ W2 d, (∀ ty, (Builtin.copy_ #[24, 24] ty #[.slice (some ⟨wt.heap.size, 0, none⟩) L L, .slice U L C]).run Yba.prog (wt.alloc (.cells (madeCells #[.int .i32 0] L) 21)) = .ok (goInt L) W2) ∧
    SW wt W2 wt.heap.size 0 L d := by
  obtain ⟨hL, l, hl⟩ := hI
  have hal : Aside wt.heap.size wt (wt.alloc (.cells (madeCells #[.int .i32 0] L) 21)) := (Aside.refl _ _).alloc _
  by_cases h0 : L = 0
  · subst h0
    refine ⟨_, #[], fun ty => run_copy_none (P := Yba.prog) _ 24 24 ty 21 _ _ 0 0 0 C Yba.underlying24 info21s (by simp), hal, rfl, _, World.rowIs_made wt (.int .i32 0) 0 21, fun t ht => absurd ht (Nat.not_lt_zero _)⟩
  · obtain ⟨b, o, rfl, hbs, _⟩ := hl 0 (by omega)
    have hcell : ∀ i, i < L → (wt.alloc (.cells (madeCells #[.int .i32 0] L) 21)).cell? ⟨b, o + i, none⟩ = some (.int .i32 (l i)) := fun i hi => by
      obtain ⟨b', o', e, _, hc⟩ := hl i hi
      cases e
      have hb2 : RowKit.Below w0.heap.size w0 (wt.alloc (.cells (madeCells #[.int .i32 0] L) 21)) := hb.alloc hb.size _
      exact (hb2.cell (p := ⟨b, o + i, none⟩) hbs).trans hc
    have hh : (wt.alloc (.cells (madeCells #[.int .i32 0] L) 21)).heap[wt.heap.size]? = some (.cells (madeCells #[.int .i32 0] L) 21 (0, 0)) := by
      show (wt.heap.push _)[wt.heap.size]? = _
      simp
    have hms : (madeCells #[Value.int .i32 0] L).size = L := size_madeCells _ _
    obtain ⟨cs, hcd⟩ : ∃ cs, cs = (List.range L).map fun i => Value.int .i32 (l i) := ⟨_, rfl⟩
    have hcs : cs.length = L := by rw [hcd]; simp
    have hget : ∀ j, j < L → cs[j]? = some (.int .i32 (l j)) := fun j hj => by rw [hcd]; simp [hj]
    have hrun := fun ty => run_copy_row (P := Yba.prog) (wt.alloc (.cells (madeCells #[.int .i32 0] L) 21)) 24 24 ty 21 wt.heap.size 0 L L ⟨b, o, none⟩ L C (madeCells #[.int .i32 0] L) 21 cs Yba.underlying24 info21s hh (by rw [hcs]; simp)
        (fun j v hv => by
          have hj : j < L := by
            rw [← hcs]
            exact (List.getElem?_eq_some_iff.1 hv).1
          rw [hget j hj] at hv
          rw [← hv, show (⟨b, o, none⟩ : Addr).add j = ⟨b, o + j, none⟩ by simp [Addr.add]]
          exact hcell j hj) (by rw [hcs, hms]; omega) (by rw [hcd]; simp; intro a _; rfl)
    have hrow : ((madeCells #[Value.int .i32 0] L).toList.take 0 ++ cs ++ (madeCells #[Value.int .i32 0] L).toList.drop (0 + cs.length)).toArray = cs.toArray := by
      rw [List.drop_eq_nil_of_le (by rw [hcs, Array.length_toList, hms]; omega)]
      simp
    rw [hrow, hcs] at hrun
    refine ⟨_, ((List.range L).map l).toArray, hrun, ⟨hal.os, hal.tape, hal.output, by simp, fun k hk hB => (setRow_other _ _ _ _ hB).trans (hal.block k hk hB)⟩, by simp, fun k => .int .i32 (l k), ⟨cs.toArray, setRow_heap _ _ _ _ _ _ hh, by simp [hcs], fun i hi => ?_⟩, fun t ht => ?_⟩
    · rw [← hget i (by omega)]; simp
    · simp [ht]

theorem Tos.kept {w wr wr' : World} {ob bb len total n : Nat} {c : Nat → Nat} {T : Nat → Option (List Int)} {X : Nat → Nat} (h : Tos w wr ob bb len total n c T X) (hb : RowKit.Below wr.heap.size wr wr') : Tos w wr' ob bb len total n c T X :=
  ⟨h.below.trans (hb.mono h.below.size), Nat.le_trans h.size hb.size, h.grp.of_block (hb.block _ h.grp.lt), h.base.of_block (hb.block _ h.base.lt), h.tor.of_block (hb.block _ h.tor.lt), fun m hm l hl => ⟨(h.rows m hm l hl).1, (h.rows m hm l hl).2.of_block (hb.block _ (h.rows m hm l hl).2.lt)⟩, h.place⟩

/-- 'g.to[n] = c'. -/
theorem Tos.put {w wr : World} {ob bb len total n : Nat} {c : Nat → Nat} {T : Nat → Option (List Int)} {X : Nat → Nat} (h : Tos w wr ob bb len total n c T X) (g : Nat) (l : List Int) (hg : w.heap.size + 1 + 1 + 1 + 1 ≤ g) (hr : wr.rowIs g 21 l.length (fun j => .int .i32 (l.getD j 0))) :
    Tos w (wr.setCell ⟨w.heap.size + 1 + 1 + 1, n, none⟩ (.slice (some ⟨g, 0, none⟩) l.length l.length)) ob bb len total (n + 1) c (fun m => if m = n then some l else T m) (fun m => if m = n then g else X m) := by
  have hbb : bb ≠ w.heap.size + 1 + 1 + 1 := by rcases h.place with ⟨_, h⟩ | ⟨_, h⟩ <;> omega
  refine ⟨h.below.setCell (by show w.heap.size ≤ w.heap.size + 1 + 1 + 1; omega) _, by simpa [World.setCell] using h.size, h.grp.setOther (by show w.heap.size + 1 + 1 ≠ w.heap.size + 1 + 1 + 1; omega) _, h.base.setOther hbb _, (h.tor.set n _).congr fun m hm => ?_, fun m hm l' hl' => ?_, h.place⟩
  · by_cases e : m = n
    · subst e
      simp [toCells, toCell]
    · by_cases hl : m < n
      · simp [toCells, toCell, e, hl, show m < n + 1 by omega]
      · simp [toCells, e, hl, show ¬ m < n + 1 by omega]
  · by_cases e : m = n
    · subst e
      simp only [if_true] at hl' ⊢
      cases hl'
      exact ⟨hg, hr.setOther (by show g ≠ w.heap.size + 1 + 1 + 1; omega) _⟩
    · simp only [if_neg e] at hl' ⊢
      have := h.rows m (by omega) l' hl'
      exact ⟨this.1, this.2.setOther (by show X m ≠ w.heap.size + 1 + 1 + 1; omega) _⟩

/-- In order. -/
def Srt (l : List Int) : Prop := ∀ i j, i ≤ j → j < l.length → l.getD i 0 ≤ l.getD j 0
def AllSrt (T : Nat → Option (List Int)) : Prop := ∀ m l, T m = some l → l.length ≤ 1024 ∧ Srt l

theorem AllSrt.put {T : Nat → Option (List Int)} (h : AllSrt T) (n : Nat) (l : List Int) (h1 : l.length ≤ 1024) (h2 : Srt l) : AllSrt (fun m => if m = n then some l else T m) := fun m l' hl => by
  by_cases e : m = n
  · simp only [if_pos e] at hl
    cases hl
    exact ⟨h1, h2⟩
  · simp only [if_neg e] at hl
    exact h m l' hl

theorem getD_arr (R : Array Int) (j : Nat) : R.toList.getD j 0 = R[j]! := by
  by_cases h : j < R.size
  · simp [List.getD, h]
  · simp [List.getD, h]

theorem srt_of {R : Array Int} {L : Nat} (hs : R.size = L) (h : SortedIn ltInt 0 L R) : Srt R.toList := fun i j hij hj => by
  rw [getD_arr, getD_arr]
  rcases Nat.lt_or_ge i j with h1 | h1
  · have := h i j (Nat.zero_le _) h1 (by rw [← hs]; simpa using hj)
    simp only [ltInt, decide_eq_false_iff_not] at this
    omega
  · have : i = j := by omega
    rw [this]
    exact Int.le_refl _

/-- The new list, in order, in a world that keeps the elder memory. -/
theorem new_row {wt w3 : World} {L : Nat} {R : Array Int} (h : SW wt w3 wt.heap.size 0 L R) : RowKit.Below wt.heap.size wt w3 ∧ w3.rowIs wt.heap.size 21 R.toList.length (fun j => .int .i32 (R.toList.getD j 0)) := by
  obtain ⟨F, h1, h2⟩ := h.row
  refine ⟨⟨h.aside.os, h.aside.tape, h.aside.output, h.aside.size, fun k hk => h.aside.block k hk (by omega)⟩, ?_⟩
  have hl : R.toList.length = 0 + L := by rw [Array.length_toList, h.size]; omega
  rw [hl]
  exact h1.congr fun i hi => by rw [getD_arr, ← h2 i (by omega), Nat.zero_add]
end Go.Proofs.Ybulkbycg
