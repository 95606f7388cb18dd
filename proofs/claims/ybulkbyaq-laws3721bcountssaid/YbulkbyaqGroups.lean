/-
  The groups of a ready queue in memory, told by the list of their blocks; container/heap's Fix over them.
-/
import Derived.Test.YbulkbyaqGroup
namespace Go.Proofs.Ybulkbyaq
open Go.RowKit

theorem row_ne {W : World} {a b s t m n : Nat} {f g : Nat → Value} (h : W.rowIs a s m f) (k : W.rowIs b t n g) (hst : s ≠ t) : a ≠ b := by
  intro e
  subst e
  obtain ⟨c, h1, _⟩ := h
  obtain ⟨d, h2, _⟩ := k
  rw [h1] at h2
  simp only [Option.some.injEq, Obj.cells.injEq] at h2
  exact hst h2.2.1

/-- What is fixed of the groups: of each block whether it has a slot, the block of its slots, its slot's block; when the slot is due; the gap; the end of the pause. -/
structure GData where
  has : Nat → Bool
  sa : Nat → Nat
  sb : Nat → Nat
  due : Nat → Int
  gap : Nat → Int
  pau : Nat → Int

/-- The first slot of a group. -/
structure HeadIs (W : World) (D : GData) (x : Nat) : Prop where
  arr : ∃ A, W.rowIs (D.sa x) 46 1 A ∧ A 0 = .pointer (some ⟨D.sb x, 0, none⟩)
  slot : ∃ S, W.rowIs (D.sb x) 62 39 S ∧ S 13 = .int .u64 (D.due x % 1000000000) ∧ S 14 = .int .i64 (D.due x / 1000000000) ∧ S 15 = .pointer none

/-- The twelve cells of a group's queue: free at f, at place i. -/
structure CellsAre (D : GData) (x : Nat) (f i : Int) (F : Nat → Value) : Prop where
  slots : F 0 = if D.has x then .slice (some ⟨D.sa x, 0, none⟩) 1 1 else .slice none 0 0
  gap : F 1 = .int .i64 (D.gap x)
  f0 : F 2 = .int .u64 (f % 1000000000)
  f1 : F 3 = .int .i64 (f / 1000000000)
  f2 : F 4 = .pointer none
  p0 : F 5 = .int .u64 (D.pau x % 1000000000)
  p1 : F 6 = .int .i64 (D.pau x / 1000000000)
  p2 : F 7 = .pointer none
  br : F 10 = .pointer none
  ix : F 11 = .int .i64 i

structure GroupIs (W : World) (D : GData) (x : Nat) (f i : Int) : Prop where
  row : ∃ F, W.rowIs x 45 12 F ∧ CellsAre D x f i F
  head : D.has x = true → HeadIs W D x

theorem HeadIs.of_blocks {W W' : World} {D : GData} {x : Nat} (h : HeadIs W D x) (ea : W'.heap[D.sa x]? = W.heap[D.sa x]?) (eb : W'.heap[D.sb x]? = W.heap[D.sb x]?) : HeadIs W' D x := by
  obtain ⟨A, hA, a0⟩ := h.arr
  obtain ⟨S, hS, s0⟩ := h.slot
  exact ⟨⟨A, hA.of_block ea, a0⟩, ⟨S, hS.of_block eb, s0⟩⟩
theorem GroupIs.lt {W : World} {D : GData} {x : Nat} {f i : Int} (h : GroupIs W D x f i) : x < W.heap.size := by
  obtain ⟨F, hF, _⟩ := h.row
  exact hF.lt
theorem HeadIs.lt_sa {W : World} {D : GData} {x : Nat} (h : HeadIs W D x) : D.sa x < W.heap.size := by
  obtain ⟨A, hA, _⟩ := h.arr
  exact hA.lt
theorem HeadIs.lt_sb {W : World} {D : GData} {x : Nat} (h : HeadIs W D x) : D.sb x < W.heap.size := by
  obtain ⟨A, hA, _⟩ := h.slot
  exact hA.lt
theorem GroupIs.of_blocks {W W' : World} {D : GData} {x : Nat} {f i : Int} (h : GroupIs W D x f i) (e : W'.heap[x]? = W.heap[x]?) (eh : D.has x = true → W'.heap[D.sa x]? = W.heap[D.sa x]? ∧ W'.heap[D.sb x]? = W.heap[D.sb x]?) : GroupIs W' D x f i := by
  obtain ⟨F, hF, c⟩ := h.row
  exact ⟨⟨F, hF.of_block e, c⟩, fun hh => (h.head hh).of_blocks (eh hh).1 (eh hh).2⟩
theorem GroupIs.below {W W' : World} {D : GData} {x : Nat} {f i : Int} (h : GroupIs W D x f i) (hb : Below W.heap.size W W') : GroupIs W' D x f i :=
  h.of_blocks (hb.block x h.lt) (fun hh => ⟨hb.block _ (h.head hh).lt_sa, hb.block _ (h.head hh).lt_sb⟩)

/-- A store that spares the group's blocks. -/
theorem GroupIs.other {W : World} {D : GData} {x : Nat} {f i : Int} (h : GroupIs W D x f i) {a : Addr} (v : Value) (hx : x ≠ a.block) (ha : D.has x = true → D.sa x ≠ a.block ∧ D.sb x ≠ a.block) : GroupIs (W.setCell a v) D x f i :=
  h.of_blocks (Below.heap_setCell W a v x hx) (fun hh => ⟨Below.heap_setCell W a v _ (ha hh).1, Below.heap_setCell W a v _ (ha hh).2⟩)

theorem HeadIs.other_row {W : World} {D : GData} {x y t n : Nat} {F : Nat → Value} (h : HeadIs W D x) (k : W.rowIs y t n F) (h1 : t ≠ 46) (h2 : t ≠ 62) : D.sa x ≠ y ∧ D.sb x ≠ y := by
  obtain ⟨A, hA, _⟩ := h.arr
  obtain ⟨S, hS, _⟩ := h.slot
  exact ⟨row_ne hA k (Ne.symm h1), row_ne hS k (Ne.symm h2)⟩

theorem CellsAre.index {D : GData} {x : Nat} {f i : Int} {F : Nat → Value} (h : CellsAre D x f i F) (j : Int) : CellsAre D x f j (fun k => if k = 11 then .int .i64 j else F k) :=
  ⟨by simpa using h.slots, by simpa using h.gap, by simpa using h.f0, by simpa using h.f1, by simpa using h.f2, by simpa using h.p0, by simpa using h.p1, by simpa using h.p2, by simpa using h.br, by simp⟩

theorem CellsAre.free {D : GData} {x : Nat} {f i : Int} {F : Nat → Value} (h : CellsAre D x f i F) (f' : Int) :
    CellsAre D x f' i (fun k => if k = 4 then .pointer none else if k = 3 then .int .i64 (f' / 1000000000) else if k = 2 then .int .u64 (f' % 1000000000) else F k) :=
  ⟨by simpa using h.slots, by simpa using h.gap, by simp, by simp, by simp, by simpa using h.p0, by simpa using h.p1, by simpa using h.p2, by simpa using h.br, by simpa using h.ix⟩

/-- The place is written. -/
theorem GroupIs.index {W : World} {D : GData} {x : Nat} {f i : Int} (h : GroupIs W D x f i) (j : Int) : GroupIs (W.setCell ⟨x, 11, none⟩ (.int .i64 j)) D x f j := by
  obtain ⟨F, hF, c⟩ := h.row
  refine ⟨⟨_, hF.set 11 _, c.index j⟩, fun hh => ?_⟩
  have hd := (h.head hh).other_row hF (by decide) (by decide)
  exact (h.head hh).of_blocks (Below.heap_setCell W _ _ _ hd.1) (Below.heap_setCell W _ _ _ hd.2)

/-- The free time is written. -/
theorem GroupIs.free {W : World} {D : GData} {x : Nat} {f i : Int} (h : GroupIs W D x f i) (f' : Int) : GroupIs (((W.setCell ⟨x, 2, none⟩ (.int .u64 (f' % 1000000000))).setCell ⟨x, 3, none⟩ (.int .i64 (f' / 1000000000))).setCell ⟨x, 4, none⟩ (.pointer none)) D x f' i := by
  obtain ⟨F, hF, c⟩ := h.row
  refine ⟨⟨_, ((hF.set 2 _).set 3 _).set 4 _, c.free f'⟩, fun hh => ?_⟩
  have hd := (h.head hh).other_row hF (by decide) (by decide)
  exact (((h.head hh).of_blocks (Below.heap_setCell W _ _ _ hd.1) (Below.heap_setCell W _ _ _ hd.2)).of_blocks (Below.heap_setCell _ _ _ _ hd.1) (Below.heap_setCell _ _ _ _ hd.2)).of_blocks (Below.heap_setCell _ _ _ _ hd.1) (Below.heap_setCell _ _ _ _ hd.2)

/-- Another group is written. -/
theorem GroupIs.other_group {W : World} {D : GData} {x y n : Nat} {f i : Int} {F : Nat → Value} (h : GroupIs W D x f i) (k : W.rowIs y 45 n F) (hxy : x ≠ y) (o : Nat) (v : Value) : GroupIs (W.setCell ⟨y, o, none⟩ v) D x f i :=
  h.other v hxy (fun hh => (h.head hh).other_row k (by decide) (by decide))

/-! ### 'next' over a group -/
/-- What 'next' says. -/
def nextZ (D : GData) (x : Nat) (f : Int) : Int := if D.has x then laterZ (laterZ (D.due x) f) (D.pau x) else 0

theorem group_next {W : World} {D : GData} {x : Nat} {f i : Int} (h : GroupIs W D x f i) : NextM W x (nextZ D x f) (D.has x) := by
  intro W' hb
  obtain ⟨F, hF, c⟩ := (h.below hb).row
  have c0 := hF.cell (i := 0) (by omega)
  rw [c.slots] at c0
  unfold nextZ
  cases hh : D.has x
  · rw [hh] at c0
    exact next_none x W' c0
  · rw [hh] at c0
    obtain ⟨A, hA, a0⟩ := ((h.below hb).head hh).arr
    obtain ⟨S, hS, s0, s1, s2⟩ := ((h.below hb).head hh).slot
    exact next_some x (D.sa x) (D.sb x) (D.due x) f (D.pau x) _ rfl W' c0 ((hA.cell (by omega)).trans (by rw [a0]))
      ((hS.cell (by omega)).trans (by rw [s0])) ((hS.cell (by omega)).trans (by rw [s1])) ((hS.cell (by omega)).trans (by rw [s2]))
      ((hF.cell (by omega)).trans (by rw [c.f0])) ((hF.cell (by omega)).trans (by rw [c.f1])) ((hF.cell (by omega)).trans (by rw [c.f2]))
      ((hF.cell (by omega)).trans (by rw [c.p0])) ((hF.cell (by omega)).trans (by rw [c.p1])) ((hF.cell (by omega)).trans (by rw [c.p2]))
      ((hF.cell (by omega)).trans (by rw [c.br]))

/-! ### The heap of groups -/
structure HIs (W : World) (R g cap : Nat) (D : GData) (fr : Nat → Int) (l : List Nat) : Prop where
  rv : ∃ F, W.rowIs R 34 2 F ∧ F 0 = .slice (some ⟨g, 0, none⟩) l.length cap
  arr : ∃ F, W.rowIs g 38 cap F ∧ ∀ k, k < l.length → F k = .pointer (some ⟨l.getD k 0, 0, none⟩)
  room : l.length ≤ cap
  groups : ∀ k, k < l.length → GroupIs W D (l.getD k 0) (fr (l.getD k 0)) k
  nodup : l.Nodup

theorem HIs.below {W W' : World} {R g cap : Nat} {D : GData} {fr : Nat → Int} {l : List Nat} (h : HIs W R g cap D fr l) (hb : Below W.heap.size W W') : HIs W' R g cap D fr l := by
  obtain ⟨F, hF, f0⟩ := h.rv
  obtain ⟨A, hA, a0⟩ := h.arr
  exact ⟨⟨F, below_rowIs hb hF, f0⟩, ⟨A, below_rowIs hb hA, a0⟩, h.room, fun k hk => (h.groups k hk).below hb, h.nodup⟩

/-- The world behind Swap. -/
def gswapWorld (W : World) (g i j s1 s2 : Nat) : World := ((((W.setCell ⟨g, i, none⟩ (.pointer (some ⟨s2, 0, none⟩))).setCell ⟨g, j, none⟩ (.pointer (some ⟨s1, 0, none⟩))).setCell ⟨s2, 11, none⟩ (.int .i64 (i : Nat))).setCell ⟨s1, 11, none⟩ (.int .i64 (j : Nat))).drew.drew

theorem GroupIs.drew {W : World} {D : GData} {x : Nat} {f i : Int} (h : GroupIs W D x f i) : GroupIs W.drew D x f i := h.of_blocks rfl (fun _ => ⟨rfl, rfl⟩)

theorem HIs.swap {W : World} {R g cap : Nat} {D : GData} {fr : Nat → Int} {l : List Nat} (h : HIs W R g cap D fr l) {i j : Nat} (hi : i < l.length) (hj : j < l.length) (hij : i ≠ j) :
    HIs (gswapWorld W g i j (l.getD i 0) (l.getD j 0)) R g cap D fr (swapL l i j) := by
  obtain ⟨F, hF, f0⟩ := h.rv
  obtain ⟨A, hA, a0⟩ := h.arr
  obtain ⟨G1, hG1, c1⟩ := (h.groups i hi).row
  obtain ⟨G2, hG2, c2⟩ := (h.groups j hj).row
  have n12 := getD_ne h.nodup hi hj hij
  have ng1 := row_ne hA hG1 (by decide)
  have ng2 := row_ne hA hG2 (by decide)
  have nR1 := row_ne hF hG1 (by decide)
  have nR2 := row_ne hF hG2 (by decide)
  have nRg := row_ne hF hA (by decide)
  have hp := swapL_perm l i j hi hj
  refine ⟨⟨F, ((((hF.setOther nRg _).setOther nRg _).setOther nR2 _).setOther nR1 _).drew.drew, by rw [swapL_length]; exact f0⟩, ⟨_, ((((hA.set i _).set j _).setOther ng2 _).setOther ng1 _).drew.drew, fun k hk => ?_⟩, by rw [swapL_length]; exact h.room, fun k hk => ?_, hp.nodup_iff.2 h.nodup⟩
  · rw [swapL_length] at hk
    rw [swapL_getD l i j k hi hj]
    show (if k = j then _ else if k = i then _ else A k) = _
    by_cases e1 : k = j
    · simp [e1]
    · by_cases e2 : k = i
      · rw [if_neg e1, if_neg e1, if_pos e2, if_pos e2]
      · simp [e1, e2, a0 k hk]
  · rw [swapL_length] at hk
    have gset : ∀ (m : Nat), m < l.length → GroupIs ((W.setCell ⟨g, i, none⟩ (.pointer (some ⟨l.getD j 0, 0, none⟩))).setCell ⟨g, j, none⟩ (.pointer (some ⟨l.getD i 0, 0, none⟩))) D (l.getD m 0) (fr (l.getD m 0)) m := by
      intro m hm
      obtain ⟨Gm, hGm, cm⟩ := (h.groups m hm).row
      have e1 := (h.groups m hm).other (a := ⟨g, i, none⟩) (.pointer (some ⟨l.getD j 0, 0, none⟩)) (row_ne hGm hA (by decide)) (fun hh => ((h.groups m hm).head hh).other_row hA (by decide) (by decide))
      exact e1.other (a := ⟨g, j, none⟩) _ (row_ne hGm hA (by decide)) (fun hh => (e1.head hh).other_row (hA.set i _) (by decide) (by decide))
    have r2 := (hG2.setOther (a := ⟨g, i, none⟩) (Ne.symm ng2) (.pointer (some ⟨l.getD j 0, 0, none⟩))).setOther (a := ⟨g, j, none⟩) (Ne.symm ng2) (.pointer (some ⟨l.getD i 0, 0, none⟩))
    have r1 := ((hG1.setOther (a := ⟨g, i, none⟩) (Ne.symm ng1) (.pointer (some ⟨l.getD j 0, 0, none⟩))).setOther (a := ⟨g, j, none⟩) (Ne.symm ng1) (.pointer (some ⟨l.getD i 0, 0, none⟩))).setOther (a := ⟨l.getD j 0, 11, none⟩) n12 (.int .i64 (i : Nat))
    rw [swapL_getD l i j k hi hj]
    by_cases e1 : k = j
    · subst e1
      rw [if_pos rfl]
      exact (((gset i hi).other_group r2 n12 11 _).index _).drew.drew
    · rw [if_neg e1]
      by_cases e2 : k = i
      · subst e2
        rw [if_pos rfl]
        exact (((gset j hj).index _).other_group r1 (Ne.symm n12) 11 _).drew.drew
      · rw [if_neg e2]
        exact (((gset k hk).other_group r2 (getD_ne h.nodup hk hj e1) 11 _).other_group r1 (getD_ne h.nodup hk hi e2) 11 _).drew.drew

/-- The heap's predicate: the groups, all but the heap's row and the groups' own blocks kept since W0. -/
structure GHeap (W0 : World) (R g cap : Nat) (D : GData) (fr : Nat → Int) (l0 : List Nat) (W : World) (l : List Nat) : Prop where
  h : HIs W R g cap D fr l
  perm : l.Perm l0
  kept : Kept (fun k => k = g ∨ k ∈ l0) W0 W

theorem gheap_less (W0 : World) (R g cap : Nat) (D : GData) (fr : Nat → Int) (l0 : List Nat) (hlen : l0.length ≤ 100000) : GLessM R (GHeap W0 R g cap D fr l0) (fun _ _ _ _ => True) := by
  intro W l i j hh hi hj
  obtain ⟨F, hF, f0⟩ := hh.h.rv
  obtain ⟨A, hA, a0⟩ := hh.h.arr
  have hl := hh.perm.length_eq
  have hroom := hh.h.room
  refine ⟨_, hF.cell (i := 0) (by omega), ?_⟩
  rw [f0]
  refine (gless_raw g l.length cap i j (l.getD i 0) (l.getD j 0) _ _ _ _ W hi hj (by omega) ((hA.cell (by omega)).trans (by rw [a0 i hi])) ((hA.cell (by omega)).trans (by rw [a0 j hj])) (group_next (hh.h.groups i hi)) (group_next (hh.h.groups j hj))).mono ?_
  rintro e w' ⟨⟨b, rfl⟩, hb⟩
  exact ⟨b, rfl, trivial, hh.h.below hb, hh.perm, hh.kept.trans (Kept.of_below (X := fun _ => False) hb) (fun _ _ h => h.elim)⟩

theorem gheap_swap (W0 : World) (R g cap : Nat) (D : GData) (fr : Nat → Int) (l0 : List Nat) (hlen : l0.length ≤ 100000) : GSwapM R (GHeap W0 R g cap D fr l0) := by
  intro W l i j hh hi hj hij
  obtain ⟨F, hF, f0⟩ := hh.h.rv
  obtain ⟨A, hA, a0⟩ := hh.h.arr
  obtain ⟨G1, hG1, c1⟩ := (hh.h.groups i hi).row
  obtain ⟨G2, hG2, c2⟩ := (hh.h.groups j hj).row
  have hl := hh.perm.length_eq
  have hroom := hh.h.room
  refine ⟨_, hF.cell (i := 0) (by omega), ?_⟩
  rw [f0]
  refine (gswap_raw g l.length cap i j (l.getD i 0) (l.getD j 0) _ _ W hi hj (by omega) hij (getD_ne hh.h.nodup hi hj hij) (row_ne hG1 hA (by decide)) (row_ne hG2 hA (by decide))
    ((hA.cell (by omega)).trans (by rw [a0 i hi])) ((hA.cell (by omega)).trans (by rw [a0 j hj])) (hA.frozen i) (hA.frozen j) (hG1.cell (by omega)) (hG2.cell (by omega)) (hG1.frozen 11) (hG2.frozen 11)).mono ?_
  rintro e w' ⟨rfl, rfl⟩
  refine ⟨rfl, hh.h.swap hi hj hij, (swapL_perm l i j hi hj).trans hh.perm, ?_⟩
  exact ((((hh.kept.setCell (a := ⟨g, i, none⟩) (.inl rfl) _).setCell (a := ⟨g, j, none⟩) (.inl rfl) _).setCell (a := ⟨l.getD j 0, 11, none⟩) (.inr (hh.perm.mem_iff.1 (getD_mem l j hj))) _).setCell (a := ⟨l.getD i 0, 11, none⟩) (.inr (hh.perm.mem_iff.1 (getD_mem l i hi))) _).drew.drew

set_option maxRecDepth 100000 in
set_option maxHeartbeats 800000 in
theorem fix_any (R g cap i : Nat) (D : GData) (fr : Nat → Int) (l0 : List Nat) (w : World) (hlen : l0.length ≤ 100000) (h : HIs w R g cap D fr l0) (hi : i < l0.length) :
    Calls Yba.prog 27 #[.iface 93 (.pointer (some ⟨R, 0, none⟩)), .int .i64 (i : Nat)] w fun e w' => e = .returned (.tuple #[]) ∧ ∃ l, GHeap w R g cap D fr l0 w' l := by
  obtain ⟨F, hF, f0⟩ := h.rv
  have c0 := hF.cell (i := 0) (by omega)
  rw [f0] at c0
  have hm := gmeth_len R w _ c0
  have HG := Lib.hid (show GHeap w R g cap D fr l0 w l0 from ⟨h, List.Perm.refl _, Kept.refl _ _⟩)
  clear c0 hF f0 h
  go_enter Yba.func27, Yba.ntmps27
  go_wp2_with (first | (go_at_call 71; go_in) | fail)
  refine (gdown_any R i l0.length (GHeap w R g cap D fr l0) (fun _ _ _ _ => True) (fun _ _ => True) (fun _ _ => True) l0 w (gheap_less w R g cap D fr l0 hlen) (gheap_swap w R g cap D fr l0 hlen) HG.out (Nat.le_refl _) hi hlen trivial (fun _ _ _ _ _ _ _ _ => trivial) (fun _ _ _ _ => trivial) (fun _ _ _ _ _ _ _ => trivial)).mono ?_
  rintro e w1 ⟨l1, i1, rfl, hG1, -, hl1⟩
  have HG1 := Lib.hid hG1
  clear hG1 hm
  by_cases hlt : i < i1
  · have hd := decide_eq_true hlt
    go_wp2
    go_end0
    exact ⟨rfl, l1, HG1.out⟩
  · have hd := decide_eq_false hlt
    go_wp2_with fail
    refine (gup_any R i (GHeap w R g cap D fr l0) (fun _ _ _ _ => True) (fun _ _ => True) (fun _ => True) l1 w1 (gheap_less w R g cap D fr l0 hlen) (gheap_swap w R g cap D fr l0 hlen) HG1.out (by omega) (by omega) trivial (fun _ _ _ _ _ _ => trivial) (fun _ _ _ _ _ => trivial)).mono ?_
    rintro e w2 ⟨rfl, l2, hG2, -, hl2⟩
    have HG2 := Lib.hid hG2
    clear hG2
    go_wp2
    go_end0
    exact ⟨rfl, l2, HG2.out⟩
end Go.Proofs.Ybulkbyaq
