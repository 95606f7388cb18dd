/-
  The walk of zzs3724cbuild.
-/
import Derived.Test.YbulkbycgProg
import Derived.Test.YbulkbycgPlain
import Derived.WalkKit
import Derived.WalkSpells
import Derived.WalkLawsBesides
import Derived.Deep.OwnRows
import Derived.Deep.LoopGhost
import Derived.Deep.DeepCutAuto
import Derived.BigRegion
namespace Go.Proofs.Ybulkbycg
open Go.RowKit

theorem info80 : (Yba.prog.info? 80).map (fun i => (i.zero, i.size, i.bytes)) = some (some (.pointer none), 1, 8) := by kernel_rfl
theorem info3 : (Yba.prog.info? 3).map (fun i => (i.zero, i.size, i.bytes)) = some (some (.int .i64 0), 1, 8) := by kernel_rfl
theorem info24 : (Yba.prog.info? 24).map (fun i => (i.zero, i.size, i.bytes)) = some (some (.slice none 0 0), 1, 24) := by kernel_rfl
theorem info21 : (Yba.prog.info? 21).map (fun i => (i.zero, i.size, i.bytes)) = some (some (.int .i32 0), 1, 4) := by kernel_rfl

/-- The group's own cells: 'of', 'base', and (behind its make) 'to'. -/
def grpCells (ob bb len : Nat) (tv : Value) : Nat → Value := fun i => if i = 1 then .slice (some ⟨ob, 0, none⟩) len len else if i = 4 then .slice (some ⟨bb, 0, none⟩) (len + 1) (len + 1) else if i = 6 then tv else .slice none 0 0
def baseCells (c : Nat → Nat) (s : Nat) : Nat → Value := fun i => if i ≤ s then .int .i64 (pre c i : Nat) else .int .i64 0

/-- What holds at the first loop's head, s senders counted. -/
structure Base (w wr : World) (ob bb len s : Nat) (c : Nat → Nat) : Prop where
  below : Below w.heap.size w wr
  size : wr.heap.size = w.heap.size + 1 + 1 + 1
  grp : wr.rowIs (w.heap.size + 1 + 1) 31 7 (grpCells ob bb len (.slice none 0 0))
  base : wr.rowIs bb 3 (len + 1) (baseCells c s)
  place : (ob = w.heap.size ∧ bb = w.heap.size + 1) ∨ (ob = w.heap.size + 1 ∧ bb = w.heap.size)

theorem grp_new (w : World) (ob bb len : Nat) : (w.alloc (.cells #[.slice none 0 0, .slice (some ⟨ob, 0, none⟩) len len, .slice none 0 0, .slice none 0 0, .slice (some ⟨bb, 0, none⟩) (len + 1) (len + 1), .slice none 0 0, .slice none 0 0] 31)).rowIs w.heap.size 31 7 (grpCells ob bb len (.slice none 0 0)) :=
  World.rowIs_alloc w #[.slice none 0 0, .slice (some ⟨ob, 0, none⟩) len len, .slice none 0 0, .slice none 0 0, .slice (some ⟨bb, 0, none⟩) (len + 1) (len + 1), .slice none 0 0, .slice none 0 0] 31 _ (fun i hi => by
    have : i < 7 := hi
    match i, this with
    | 0, _ => rfl
    | 1, _ => rfl
    | 2, _ => rfl
    | 3, _ => rfl
    | 4, _ => rfl
    | 5, _ => rfl
    | 6, _ => rfl
    | n + 7, h => omega)

theorem base_start1 (w : World) (len : Nat) (c : Nat → Nat) :
    Base w (((w.alloc (.cells (madeCells #[.pointer none] len) 80)).alloc (.cells (madeCells #[.int .i64 0] (len + 1)) 3)).alloc (.cells #[.slice none 0 0, .slice (some ⟨w.heap.size, 0, none⟩) len len, .slice none 0 0, .slice none 0 0, .slice (some ⟨w.heap.size + 1, 0, none⟩) (len + 1) (len + 1), .slice none 0 0, .slice none 0 0] 31)).drew w.heap.size (w.heap.size + 1) len 0 c := by
  have r1 := World.rowIs_made (w.alloc (.cells (madeCells #[.pointer none] len) 80)) (.int .i64 0) (len + 1) 3
  have r2 := grp_new ((w.alloc (.cells (madeCells #[.pointer none] len) 80)).alloc (.cells (madeCells #[.int .i64 0] (len + 1)) 3)) w.heap.size (w.heap.size + 1) len
  simp only [World.size_alloc] at r1 r2
  refine ⟨((((Below.refl _ _).alloc (Nat.le_refl _) _).alloc (by simp) _).alloc (by simp; omega) _).drew, by simp, r2.drew, (((r1.alloc _).drew).congr fun i hi => ?_), .inl ⟨rfl, rfl⟩⟩
  simp only [baseCells]
  by_cases h : i ≤ 0
  · rw [if_pos h]
    have : i = 0 := by omega
    subst this
    rfl
  · rw [if_neg h]

theorem base_start2 (w : World) (len : Nat) (c : Nat → Nat) :
    Base w (((w.alloc (.cells (madeCells #[.int .i64 0] (len + 1)) 3)).alloc (.cells (madeCells #[.pointer none] len) 80)).alloc (.cells #[.slice none 0 0, .slice (some ⟨w.heap.size + 1, 0, none⟩) len len, .slice none 0 0, .slice none 0 0, .slice (some ⟨w.heap.size, 0, none⟩) (len + 1) (len + 1), .slice none 0 0, .slice none 0 0] 31)).drew (w.heap.size + 1) w.heap.size len 0 c := by
  have r1 := World.rowIs_made w (.int .i64 0) (len + 1) 3
  have r2 := grp_new ((w.alloc (.cells (madeCells #[.int .i64 0] (len + 1)) 3)).alloc (.cells (madeCells #[.pointer none] len) 80)) (w.heap.size + 1) w.heap.size len
  simp only [World.size_alloc] at r1 r2
  refine ⟨((((Below.refl _ _).alloc (Nat.le_refl _) _).alloc (by simp) _).alloc (by simp; omega) _).drew, by simp, r2.drew, ((((r1.alloc _).alloc _).drew).congr fun i hi => ?_), .inr ⟨rfl, rfl⟩⟩
  simp only [baseCells]
  by_cases h : i ≤ 0
  · rw [if_pos h]
    have : i = 0 := by omega
    subst this
    rfl
  · rw [if_neg h]

theorem base_step {w wr : World} {ob bb len s : Nat} {c : Nat → Nat} (h : Base w wr ob bb len s c) :
    Base w (wr.setCell ⟨bb, s + 1, none⟩ (.int .i64 ((pre c s : Int) + (c s : Int) % 8))).drew ob bb len (s + 1) c := by
  have hbb : w.heap.size ≤ bb ∧ bb ≠ w.heap.size + 1 + 1 := by rcases h.place with ⟨_, h⟩ | ⟨_, h⟩ <;> omega
  refine ⟨(h.below.setCell hbb.1 _).drew, by simp [h.size], (h.grp.setOther (Ne.symm hbb.2) _).drew, ((h.base.set (s + 1) _).congr fun i hi => ?_).drew, h.place⟩
  simp only [baseCells]
  by_cases e : i = s + 1
  · subst e
    rw [if_pos rfl, if_pos (Nat.le_refl _), pre_succ]
    congr 1
  · rw [if_neg e]
    by_cases hl : i ≤ s
    · rw [if_pos hl, if_pos (by omega)]
    · rw [if_neg hl, if_neg (by omega)]

/-- The cells of 'to' when n of them are laid: T: what each message names; X: the blocks of the lists. -/
def toCell (T : Nat → Option (List Int)) (X : Nat → Nat) (m : Nat) : Value := match T m with
  | none => .slice none 0 0
  | some l => .slice (some ⟨X m, 0, none⟩) l.length l.length
def toCells (T : Nat → Option (List Int)) (X : Nat → Nat) (n : Nat) : Nat → Value := fun m => if m < n then toCell T X m else .slice none 0 0

/-- What holds at the second loop's head, n messages done. -/
structure Tos (w wr : World) (ob bb len total n : Nat) (c : Nat → Nat) (T : Nat → Option (List Int)) (X : Nat → Nat) : Prop where
  below : Below w.heap.size w wr
  size : w.heap.size + 1 + 1 + 1 + 1 ≤ wr.heap.size
  grp : wr.rowIs (w.heap.size + 1 + 1) 31 7 (grpCells ob bb len (.slice (some ⟨w.heap.size + 1 + 1 + 1, 0, none⟩) total total))
  base : wr.rowIs bb 3 (len + 1) (baseCells c len)
  tor : wr.rowIs (w.heap.size + 1 + 1 + 1) 24 total (toCells T X n)
  rows : ∀ m, m < n → ∀ l, T m = some l → w.heap.size + 1 + 1 + 1 + 1 ≤ X m ∧ wr.rowIs (X m) 21 l.length (fun j => .int .i32 (l.getD j 0))
  place : (ob = w.heap.size ∧ bb = w.heap.size + 1) ∨ (ob = w.heap.size + 1 ∧ bb = w.heap.size)

theorem tos_start {w wr : World} {ob bb len : Nat} {c : Nat → Nat} (h : Base w wr ob bb len len c) (total : Nat) (T : Nat → Option (List Int)) (X : Nat → Nat) :
    Tos w ((wr.setCell ⟨w.heap.size + 1 + 1, 6, none⟩ (.slice (some ⟨w.heap.size + 1 + 1 + 1, 0, none⟩) total total)).alloc (.cells (madeCells #[.slice none 0 0] total) 24)) ob bb len total 0 c T X := by
  have hbb : bb ≠ w.heap.size + 1 + 1 := by rcases h.place with ⟨_, h⟩ | ⟨_, h⟩ <;> omega
  have r := World.rowIs_made (wr.setCell ⟨w.heap.size + 1 + 1, 6, none⟩ (.slice (some ⟨w.heap.size + 1 + 1 + 1, 0, none⟩) total total)) (.slice none 0 0) total 24
  have hs : (wr.setCell ⟨w.heap.size + 1 + 1, 6, none⟩ (.slice (some ⟨w.heap.size + 1 + 1 + 1, 0, none⟩) total total)).heap.size = w.heap.size + 1 + 1 + 1 := by simp [h.size]
  rw [hs] at r
  refine ⟨(h.below.setCell (by show w.heap.size ≤ w.heap.size + 1 + 1; omega) _).alloc (by rw [hs]; omega) _, by simp [h.size], ((h.grp.set 6 _).alloc _).congr fun i hi => ?_, (h.base.setOther hbb _).alloc _, r.congr fun i hi => by simp [toCells], fun m hm => absurd hm (Nat.not_lt_zero _), h.place⟩
  simp only [grpCells]
  by_cases e : i = 6
  · subst e; simp
  · rw [if_neg e]
    simp [e]

theorem Tos.skip {w wr : World} {ob bb len total n : Nat} {c : Nat → Nat} {T : Nat → Option (List Int)} {X : Nat → Nat} (h : Tos w wr ob bb len total n c T X) (hT : T n = none) : Tos w wr ob bb len total (n + 1) c T X := by
  refine ⟨h.below, h.size, h.grp, h.base, h.tor.congr fun m hm => ?_, fun m hm l hl => ?_, h.place⟩
  · simp only [toCells]
    by_cases e : m = n
    · subst e
      rw [if_neg (Nat.lt_irrefl _), if_pos (Nat.lt_succ_self _), toCell, hT]
    · by_cases hl : m < n
      · rw [if_pos hl, if_pos (by omega)]
      · rw [if_neg hl, if_neg (by omega)]
  · by_cases e : m = n
    · subst e; rw [hT] at hl; cases hl
    · exact h.rows m (by omega) l hl

/-- WHAT THE CALL LEAVES: a group in memory. -/
structure GroupIs (W : World) (g len total : Nat) (c : Nat → Nat) (T : Nat → Option (List Int)) : Prop where
  of : ∃ a, W.cell? ⟨g, 1, none⟩ = some (.slice (some a) len len)
  base : ∃ b, W.cell? ⟨g, 4, none⟩ = some (.slice (some ⟨b, 0, none⟩) (len + 1) (len + 1)) ∧ ∀ s, s ≤ len → W.cell? ⟨b, s, none⟩ = some (.int .i64 (pre c s : Nat))
  tos : ∃ b X, W.cell? ⟨g, 6, none⟩ = some (.slice (some ⟨b, 0, none⟩) total total) ∧ (∀ n, n < total → W.cell? ⟨b, n, none⟩ = some (toCell T X n)) ∧
    ∀ n, n < total → ∀ l, T n = some l → ∀ j, j < l.length → W.cell? ⟨X n, j, none⟩ = some (.int .i32 (l.getD j 0))

theorem lt_of_cell {W : World} {b o : Nat} {v : Value} (h : W.cell? ⟨b, o, none⟩ = some v) : b < W.heap.size := by
  rcases Nat.lt_or_ge b W.heap.size with h2 | h2
  · exact h2
  · simp [World.cell?, Array.getElem?_eq_none h2] at h

theorem cell_kept {W W' : World} (hb : Below W.heap.size W W') {b o : Nat} {v : Value} (h : W.cell? ⟨b, o, none⟩ = some v) : W'.cell? ⟨b, o, none⟩ = some v :=
  (hb.cell (p := ⟨b, o, none⟩) (lt_of_cell h)).trans h

theorem GroupIs.kept {W W' : World} {g len total : Nat} {c : Nat → Nat} {T : Nat → Option (List Int)} (h : GroupIs W g len total c T) (hb : Below W.heap.size W W') : GroupIs W' g len total c T := by
  obtain ⟨a, h1⟩ := h.of
  obtain ⟨b, h2, h3⟩ := h.base
  obtain ⟨d, X, h4, h5, h6⟩ := h.tos
  exact ⟨⟨a, cell_kept hb h1⟩, ⟨b, cell_kept hb h2, fun s hs => cell_kept hb (h3 s hs)⟩, ⟨d, X, cell_kept hb h4, fun n hn => cell_kept hb (h5 n hn), fun n hn l hl j hj => cell_kept hb (h6 n hn l hl j hj)⟩⟩

theorem Tos.group {w wr : World} {ob bb len total : Nat} {c : Nat → Nat} {T : Nat → Option (List Int)} {X : Nat → Nat} (h : Tos w wr ob bb len total total c T X) : GroupIs wr (w.heap.size + 1 + 1) len total c T := by
  refine ⟨⟨_, (h.grp.cell (i := 1) (by omega)).trans rfl⟩, ⟨bb, (h.grp.cell (i := 4) (by omega)).trans rfl, fun s hs => (h.base.cell (i := s) (by omega)).trans ?_⟩, ⟨_, X, (h.grp.cell (i := 6) (by omega)).trans rfl, fun n hn => (h.tor.cell hn).trans ?_, fun n hn l hl j hj => (h.rows n hn l hl).2.cell hj⟩⟩
  · simp only [baseCells]; rw [if_pos hs]
  · simp only [toCells]; rw [if_pos hn]

set_option maxRecDepth 100000 in
set_option maxHeartbeats 400000 in
theorem build_nil (a0 : Option Addr) (len cap : Nat) (c : Nat → Nat) (w : World) (hlen : len ≤ 256)
    (hv : ∀ i, i < len → ∃ b off, a0 = some ⟨b, off, none⟩ ∧ b < w.heap.size ∧ c i ≤ 255 ∧ w.cell? ⟨b, off + i, none⟩ = some (.int .u8 (c i : Nat))) :
    Calls Yba.prog 5 #[.slice a0 len cap, .slice none 0 0] w fun e w' => e = .returned (.pointer (some ⟨w.heap.size + 1 + 1, 0, none⟩)) ∧ Below w.heap.size w w' ∧ GroupIs w' (w.heap.size + 1 + 1) len (pre c len) c (fun _ => none) := by
  have hmk1 := run_make_row' (P := Yba.prog) 27 80 (.pointer none) 8 Yba.underlying27 info80 rfl .i64 .i64 len (by omega) (by omega)
  have hmk2 := run_make_row' (P := Yba.prog) 29 3 (.int .i64 0) 8 Yba.underlying29 info3 rfl .i64 .i64 (len + 1) (by omega) (by omega)
  rw [show ((len + 1 : Nat) : Int) = (len : Int) + 1 by omega] at hmk2
  have HV : Hid (∀ i, i < len → ∃ b off, a0 = some ⟨b, off, none⟩ ∧ b < w.heap.size ∧ c i ≤ 255 ∧ w.cell? ⟨b, off + i, none⟩ = some (.int .u8 (c i : Nat))) := hv
  clear hv
  go_enter Yba.func5, Yba.ntmps5
  go_wp2
  go_cut [6] (fun g wc => ∃ ob bb, g = .pointer (some ⟨w.heap.size + 1 + 1, 0, none⟩) ∧ Base w wc ob bb len 0 c)
  case first =>
    go_region
    · go_wp2
      go_meet
      case rel => exact ⟨_, _, rfl, base_start1 w len c⟩
    · go_wp2
      go_meet
      case rel => exact ⟨_, _, rfl, base_start2 w len c⟩
  case rest =>
    clear hmk1 hmk2
    obtain ⟨ob, bb, rfl, hB⟩ := hcut
    go_wp2
    go_loopg [7] len (fun g i wr => ∃ s : Nat, s + g = len ∧ i = .int .i64 s ∧ Base w wr ob bb len s c)
    case atStart => exact ⟨0, by omega, rfl, hB⟩
    case round =>
      obtain ⟨s, hs, rfl, hBs⟩ := hrel
      clear hB
      by_cases hlt : s < len
      · obtain ⟨b, off, rfl, hb, hc8, hcell0⟩ := HV.out s hlt
        have hcell := (hBs.below.cell (p := ⟨b, off + s, none⟩) hb).trans hcell0
        clear hcell0
        have g4 := hBs.grp.cell (i := 4) (by omega)
        have b1 := hBs.base.cell (i := s) (by omega)
        have b2 := hBs.base.cell (i := s + 1) (by omega)
        have f2 := hBs.base.frozen (s + 1)
        simp only [grpCells, baseCells] at g4 b1 b2
        simp at g4 b1 b2
        have hp := pre_le c s
        have HBs : Hid (Base w wr ob bb len s c) := hBs
        clear hBs
        go_wp2
        go_region
        go_wp2
        go_roundg (gk - 1)
        case measure => omega
        case rel => exact ⟨s + 1, by omega, by go_num, base_step HBs.out⟩
      · have hsl : s = len := by omega
        subst hsl
        have g4 := hBs.grp.cell (i := 4) (by omega)
        have g6 := hBs.grp.cell (i := 6) (by omega)
        have f6 := hBs.grp.frozen 6
        have b1 := hBs.base.cell (i := s) (by omega)
        have hsz := hBs.size
        simp only [grpCells, baseCells] at g4 g6 b1
        simp at g4 g6 b1
        have hp := pre_le c s
        have hmk3 := run_make_row' (P := Yba.prog) 23 24 (.slice none 0 0) 24 Yba.underlying23 info24 rfl .i64 .i64 (pre c s) (by omega) (by omega)
        have HBs : Hid (Base w wr ob bb s s c) := hBs
        clear hBs
        go_wp2
        clear hmk3 g4 g6 b1 f6 hsz
        go_loopg [9] (pre c s) (fun g i wt => ∃ n : Nat, n + g = pre c s ∧ i = .int .i64 n ∧ Tos w wt ob bb s (pre c s) n c (fun _ => none) (fun _ => 0))
        case atStart => exact ⟨0, by omega, rfl, tos_start HBs.out _ _ _⟩
        case round =>
          obtain ⟨n, hn, rfl, hT⟩ := hrel
          by_cases hlt2 : n < pre c s
          · have HT : Hid (Tos w wr ob bb s (pre c s) n c (fun _ => none) (fun _ => 0)) := hT
            clear hT
            have hd : decide ((n : Int) < 0) = false := by simp
            go_wp2
            go_roundg (gk - 1)
            case measure => omega
            case rel => exact ⟨n + 1, by omega, by go_num, HT.out.skip rfl⟩
          · have hne : n = pre c s := by omega
            go_wp2
            go_ret
            rw [hne] at hT
            exact ⟨rfl, hT.below, hT.group⟩
end Go.Proofs.Ybulkbycg
