/-
  A queue of slots in memory, told by the list of its slots' blocks; what Less and Swap do to it.
-/
import Derived.Test.YbulkbyaqSwap
namespace Go.Proofs.Ybulkbyaq
open Go.RowKit

/-! ### What is kept but for some blocks -/
structure Kept (X : Nat → Prop) (W0 W : World) : Prop where
  os : W.os = W0.os
  tape : W.tape = W0.tape
  output : W.output = W0.output
  size : W0.heap.size ≤ W.heap.size
  block : ∀ k, k < W0.heap.size → ¬ X k → W.heap[k]? = W0.heap[k]?

theorem Kept.refl (X : Nat → Prop) (W : World) : Kept X W W := ⟨rfl, rfl, rfl, Nat.le_refl _, fun _ _ _ => rfl⟩
theorem Kept.trans {X Y : Nat → Prop} {A B C : World} (h : Kept X A B) (k : Kept Y B C) (hY : ∀ n, n < A.heap.size → Y n → X n) : Kept X A C :=
  ⟨k.os.trans h.os, k.tape.trans h.tape, k.output.trans h.output, Nat.le_trans h.size k.size, fun n hn hx => (k.block n (Nat.lt_of_lt_of_le hn h.size) (fun hy => hx (hY n hn hy))).trans (h.block n hn hx)⟩
theorem Kept.of_below {X : Nat → Prop} {A B : World} (h : Below A.heap.size A B) : Kept X A B := ⟨h.os, h.tape, h.output, h.size, fun k hk _ => h.block k hk⟩
theorem Kept.setCell {X : Nat → Prop} {A B : World} (h : Kept X A B) {a : Addr} (ha : X a.block) (v : Value) : Kept X A (B.setCell a v) :=
  ⟨h.os, h.tape, h.output, by simpa using h.size, fun k hk hx => (Below.heap_setCell B a v k (fun e => hx (e ▸ ha))).trans (h.block k hk hx)⟩
theorem Kept.drew {X : Nat → Prop} {A B : World} (h : Kept X A B) : Kept X A B.drew := ⟨h.os, h.tape, h.output, h.size, h.block⟩
theorem Kept.alloc {X : Nat → Prop} {A B : World} (h : Kept X A B) (o : Obj) : Kept X A (B.alloc o) :=
  ⟨h.os, h.tape, h.output, by have := h.size; simp; omega, fun k hk hx => (Below.heap_alloc B o k (Nat.lt_of_lt_of_le hk h.size)).trans (h.block k hk hx)⟩
theorem Kept.below {X : Nat → Prop} {A B : World} (h : Kept X A B) {n : Nat} (hn : n ≤ A.heap.size) (hX : ∀ k, X k → n ≤ k) : Below n A B :=
  ⟨h.os, h.tape, h.output, h.size, fun k hk => h.block k (by omega) (fun hx => by have := hX k hx; omega)⟩
theorem Kept.rowIs {X : Nat → Prop} {A B : World} (h : Kept X A B) {b t n : Nat} {f : Nat → Value} (hr : A.rowIs b t n f) (hb : ¬ X b) : B.rowIs b t n f := hr.of_block (h.block b hr.lt hb)
theorem below_rowIs {A B : World} (h : Below A.heap.size A B) {b t n : Nat} {f : Nat → Value} (hr : A.rowIs b t n f) : B.rowIs b t n f := hr.of_block (h.block b hr.lt)

/-! ### Slots and queues -/
/-- A slot that is not promoted and due at d. -/
def SlotIs (W : World) (id : Nat) (d : Int) : Prop :=
  ∃ f, W.rowIs id 62 39 f ∧ f 13 = .int .u64 (d % 1000000000) ∧ f 14 = .int .i64 (d / 1000000000) ∧ f 15 = .pointer none ∧ f 19 = .int .u64 0 ∧ f 20 = .int .i64 0 ∧ f 21 = .pointer none

theorem SlotIs.of_block {W W' : World} {id : Nat} {d : Int} (h : SlotIs W id d) (e : W'.heap[id]? = W.heap[id]?) : SlotIs W' id d := by
  obtain ⟨f, hr, hf⟩ := h
  exact ⟨f, hr.of_block e, hf⟩
theorem SlotIs.lt {W : World} {id : Nat} {d : Int} (h : SlotIs W id d) : id < W.heap.size := by
  obtain ⟨f, hr, _⟩ := h
  exact hr.lt
theorem SlotIs.index {W : World} {id : Nat} {d : Int} (h : SlotIs W id d) (s : Nat) (v : Value) : SlotIs (W.setCell ⟨s, 26, none⟩ v) id d := by
  obtain ⟨f, hr, h1, h2, h3, h4, h5, h6⟩ := h
  by_cases e : id = s
  · subst e
    exact ⟨_, hr.set 26 v, by simpa using h1, by simpa using h2, by simpa using h3, by simpa using h4, by simpa using h5, by simpa using h6⟩
  · exact ⟨f, hr.setOther e v, h1, h2, h3, h4, h5, h6⟩
theorem SlotIs.other {W : World} {id : Nat} {d : Int} (h : SlotIs W id d) {a : Addr} (ha : id ≠ a.block) (v : Value) : SlotIs (W.setCell a v) id d := by
  obtain ⟨f, hr, hf⟩ := h
  exact ⟨f, hr.setOther ha v, hf⟩
theorem SlotIs.alloc {W : World} {id : Nat} {d : Int} (h : SlotIs W id d) (o : Obj) : SlotIs (W.alloc o) id d := h.of_block (Below.heap_alloc W o id h.lt)
theorem SlotIs.drew {W : World} {id : Nat} {d : Int} (h : SlotIs W id d) : SlotIs W.drew id d := h

structure QIs (W : World) (Q g cap : Nat) (due : Nat → Int) (l : List Nat) : Prop where
  qv : W.rowIs Q 40 1 (fun _ => .slice (some ⟨g, 0, none⟩) l.length cap)
  arr : ∃ F, W.rowIs g 46 cap F ∧ ∀ k, k < l.length → F k = .pointer (some ⟨l.getD k 0, 0, none⟩)
  room : l.length ≤ cap
  most : cap ≤ maxLen
  slots : ∀ id, id ∈ l → SlotIs W id (due id)
  nodup : l.Nodup
  apart : Q ≠ g ∧ Q ∉ l ∧ g ∉ l

theorem QIs.below {A B : World} {Q g cap : Nat} {due : Nat → Int} {l : List Nat} (h : QIs A Q g cap due l) (hb : Below A.heap.size A B) : QIs B Q g cap due l := by
  obtain ⟨F, hF, hk⟩ := h.arr
  exact ⟨below_rowIs hb h.qv, ⟨F, below_rowIs hb hF, hk⟩, h.room, h.most, fun id hid => (h.slots id hid).of_block (hb.block id (h.slots id hid).lt), h.nodup, h.apart⟩

/-! ### The exchange, as lists have it -/
theorem swapL_getD (l : List Nat) (i j k : Nat) (hi : i < l.length) (hj : j < l.length) : (swapL l i j).getD k 0 = if k = j then l.getD i 0 else if k = i then l.getD j 0 else l.getD k 0 := by
  unfold swapL
  simp only [List.getD, List.getElem?_set, List.length_set]
  by_cases h1 : j = k
  · subst h1
    simp [hj]
  · by_cases h2 : i = k
    · subst h2
      simp [h1, Ne.symm h1, hi]
    · simp [h1, h2, Ne.symm h1, Ne.symm h2]

theorem swapL_perm (l : List Nat) (i j : Nat) (hi : i < l.length) (hj : j < l.length) : (swapL l i j).Perm l := by
  have e : swapL l i j = (l.toArray.swap i j (by simpa using hi) (by simpa using hj)).toList := by
    unfold swapL
    simp [Array.swap, List.getD, hi, hj]
  rw [e]
  have := (Array.swap_perm (xs := l.toArray) (i := i) (j := j) (by simpa using hi) (by simpa using hj)).toList
  simpa using this

theorem getD_mem (l : List Nat) (i : Nat) (hi : i < l.length) : l.getD i 0 ∈ l := by simp [List.getD, hi]
theorem getD_ne {l : List Nat} (hn : l.Nodup) {i j : Nat} (hi : i < l.length) (hj : j < l.length) (h : i ≠ j) : l.getD i 0 ≠ l.getD j 0 := by
  simp only [List.getD, hi, hj, List.getElem?_eq_getElem, Option.getD_some]
  have hp := List.pairwise_iff_getElem.1 hn
  rcases Nat.lt_or_gt_of_ne h with h1 | h1
  · exact hp i j hi hj h1
  · exact (hp j i hj hi h1).symm

/-- The world behind Swap. -/
def swapWorld (W : World) (g i j s1 s2 : Nat) : World := ((((W.setCell ⟨g, i, none⟩ (.pointer (some ⟨s2, 0, none⟩))).setCell ⟨g, j, none⟩ (.pointer (some ⟨s1, 0, none⟩))).setCell ⟨s2, 26, none⟩ (.int .i64 (i : Nat))).setCell ⟨s1, 26, none⟩ (.int .i64 (j : Nat))).drew.drew

theorem QIs.swap {W : World} {Q g cap : Nat} {due : Nat → Int} {l : List Nat} (h : QIs W Q g cap due l) {i j : Nat} (hi : i < l.length) (hj : j < l.length) :
    QIs (swapWorld W g i j (l.getD i 0) (l.getD j 0)) Q g cap due (swapL l i j) := by
  obtain ⟨hQg, hQl, hgl⟩ := h.apart
  have m1 := getD_mem l i hi
  have m2 := getD_mem l j hj
  have n1 : Q ≠ l.getD i 0 := fun e => hQl (e ▸ m1)
  have n2 : Q ≠ l.getD j 0 := fun e => hQl (e ▸ m2)
  have n3 : g ≠ l.getD i 0 := fun e => hgl (e ▸ m1)
  have n4 : g ≠ l.getD j 0 := fun e => hgl (e ▸ m2)
  obtain ⟨F, hF, hk⟩ := h.arr
  have hp := swapL_perm l i j hi hj
  refine ⟨?_, ⟨_, ((((hF.set i _).set j _).setOther n4 _).setOther n3 _).drew.drew, fun k hkl => ?_⟩, by rw [swapL_length]; exact h.room, h.most, fun id hid => ?_, hp.nodup_iff.2 h.nodup, hQg, fun e => hQl (hp.mem_iff.1 e), fun e => hgl (hp.mem_iff.1 e)⟩
  · rw [swapL_length]
    exact ((((h.qv.setOther hQg _).setOther hQg _).setOther n2 _).setOther n1 _).drew.drew
  · rw [swapL_length] at hkl
    rw [swapL_getD l i j k hi hj]
    show (if k = j then _ else if k = i then _ else F k) = _
    by_cases e1 : k = j
    · simp [e1]
    · by_cases e2 : k = i
      · rw [if_neg e1, if_neg e1, if_pos e2, if_pos e2]
      · simp [e1, e2, hk k hkl]
  · have hid' := hp.mem_iff.1 hid
    have hg : id ≠ g := fun e => hgl (e ▸ hid')
    exact (((((h.slots id hid').other (a := ⟨g, i, none⟩) hg _).other (a := ⟨g, j, none⟩) hg _).index _ _).index _ _).drew.drew

/-! ### Less and Swap over a queue -/
/-- The heap's predicate: a queue whose list is an exchange of l0's places, all but its own blocks kept since W0. -/
structure QHeap (W0 : World) (Q g cap : Nat) (due : Nat → Int) (l0 : List Nat) (W : World) (l : List Nat) : Prop where
  q : QIs W Q g cap due l
  perm : l.Perm l0
  kept : Kept (fun k => k = Q ∨ k = g ∨ k ∈ l0) W0 W

/-- What Less answers. -/
def dueLess (due : Nat → Int) (l : List Nat) (i j : Nat) (b : Bool) : Prop := b = decide (due (l.getD i 0) < due (l.getD j 0))

theorem due_less (W0 : World) (Q g cap : Nat) (due : Nat → Int) (l0 : List Nat) (hlen : l0.length ≤ 100000) : LessM Q (QHeap W0 Q g cap due l0) (dueLess due) := by
  intro W l i j h hi hj
  obtain ⟨F, hF, hk⟩ := h.q.arr
  obtain ⟨f1, r1, a1, a2, a3, a4, a5, a6⟩ := h.q.slots _ (getD_mem l i hi)
  obtain ⟨f2, r2, b1, b2, b3, b4, b5, b6⟩ := h.q.slots _ (getD_mem l j hj)
  have hl := h.perm.length_eq
  have hroom := h.q.room
  have ci := hF.cell (i := i) (by omega)
  have cj := hF.cell (i := j) (by omega)
  rw [hk i hi] at ci
  rw [hk j hj] at cj
  refine ⟨_, h.q.qv.cell (i := 0) (by omega), (less_raw g l.length cap i j _ _ (due (l.getD i 0)) (due (l.getD j 0)) W hi hj (by omega) ci cj
    ((r1.cell (by omega)).trans (by rw [a4])) ((r1.cell (by omega)).trans (by rw [a5])) ((r1.cell (by omega)).trans (by rw [a6]))
    ((r2.cell (by omega)).trans (by rw [b4])) ((r2.cell (by omega)).trans (by rw [b5])) ((r2.cell (by omega)).trans (by rw [b6]))
    ((r1.cell (by omega)).trans (by rw [a1])) ((r1.cell (by omega)).trans (by rw [a2])) ((r1.cell (by omega)).trans (by rw [a3]))
    ((r2.cell (by omega)).trans (by rw [b1])) ((r2.cell (by omega)).trans (by rw [b2])) ((r2.cell (by omega)).trans (by rw [b3]))).mono ?_⟩
  rintro e W' ⟨rfl, hb⟩
  exact ⟨_, rfl, rfl, h.q.below hb, h.perm, h.kept.trans (Kept.of_below (X := fun _ => False) hb) (fun _ _ h => h.elim)⟩

theorem due_swap (W0 : World) (Q g cap : Nat) (due : Nat → Int) (l0 : List Nat) (hlen : l0.length ≤ 100000) : SwapM Q (QHeap W0 Q g cap due l0) := by
  intro W l i j h hi hj
  obtain ⟨F, hF, hk⟩ := h.q.arr
  obtain ⟨f1, r1, _⟩ := h.q.slots _ (getD_mem l i hi)
  obtain ⟨f2, r2, _⟩ := h.q.slots _ (getD_mem l j hj)
  have hl := h.perm.length_eq
  have hroom := h.q.room
  have ci := hF.cell (i := i) (by omega)
  have cj := hF.cell (i := j) (by omega)
  rw [hk i hi] at ci
  rw [hk j hj] at cj
  have n3 : l.getD i 0 ≠ g := fun e => h.q.apart.2.2 (e ▸ getD_mem l i hi)
  have n4 : l.getD j 0 ≠ g := fun e => h.q.apart.2.2 (e ▸ getD_mem l j hj)
  refine ⟨_, h.q.qv.cell (i := 0) (by omega), ?_⟩
  have fin : ∀ (e : Ending) (W' : World), (e = .returned (.tuple #[]) ∧ W' = swapWorld W g i j (l.getD i 0) (l.getD j 0)) → (e = .returned (.tuple #[]) ∧ QHeap W0 Q g cap due l0 W' (swapL l i j)) := by
    rintro e W' ⟨rfl, rfl⟩
    refine ⟨rfl, h.q.swap hi hj, (swapL_perm l i j hi hj).trans h.perm, ?_⟩
    exact ((((h.kept.setCell (a := ⟨g, i, none⟩) (.inr (.inl rfl)) _).setCell (a := ⟨g, j, none⟩) (.inr (.inl rfl)) _).setCell (a := ⟨l.getD j 0, 26, none⟩) (.inr (.inr (h.perm.mem_iff.1 (getD_mem l j hj)))) _).setCell (a := ⟨l.getD i 0, 26, none⟩) (.inr (.inr (h.perm.mem_iff.1 (getD_mem l i hi)))) _).drew.drew
  by_cases e : i = j
  · subst e
    exact (swap_same g l.length cap i _ _ W hi (by omega) n3 ci (hF.frozen i) (r1.cell (by omega)) (r1.frozen 26)).mono fun e W' hh => fin e W' hh
  · exact (swap_raw g l.length cap i j _ _ _ _ W hi hj (by omega) e (getD_ne h.q.nodup hi hj e) n3 n4 ci cj (hF.frozen i) (hF.frozen j) (r1.cell (by omega)) (r2.cell (by omega)) (r1.frozen 26) (r2.frozen 26)).mono fun e W' hh => fin e W' hh
end Go.Proofs.Ybulkbyaq
