/-
  What countCalls holds of memory: the uncounted slots, the groups, and how they turn.
-/
import Derived.Test.YbulkbyaqAtomic
import Derived.Lib.SliceRun
import Derived.Lib.LazyBuf
namespace Go.Proofs.Ybulkbyaq
open Go.RowKit

theorem info46 : (Yba.prog.info? 46).map (fun i => (i.zero, i.size, i.bytes)) = some (some (.pointer none), 1, 8) := by kernel_rfl

/-- 'append' of one pointer within the capacity: it is written behind. -/
theorem run_append_in (w : World) (U b c m s ty : Nat) (F : Nat → Value) (hr : w.rowIs U 46 m F) (hc : c < m) (hx : w.cell? ⟨b, 0, none⟩ = some (.pointer (some ⟨s, 0, none⟩))) :
    (Builtin.append_ #[32, 32] ty #[.slice (some ⟨U, 0, none⟩) c m, .slice (some ⟨b, 0, none⟩) 1 1]).run Yba.prog w = .ok (.slice (some ⟨U, 0, none⟩) (c + 1) m) (w.setCell ⟨U, c, none⟩ (.pointer (some ⟨s, 0, none⟩))) := by
  obtain ⟨i, hi, h2⟩ := Option.map_eq_some_iff.1 info46
  simp only [Prod.mk.injEq] at h2
  have hroom : c + 1 ≤ m := hc
  have hcell := hr.cell hc
  have hfz := hr.frozen c
  have hf := run_firstCells_some (P := Yba.prog) w 1 1 ⟨b, 0, none⟩ 1 1 [.pointer (some ⟨s, 0, none⟩)] (by simp) (fun j u hj => by
    match j, hj with
    | 0, hj => simp at hj; subst hj; exact hx)
  simp [Builtin.append_, run_underlying Yba.underlying32, sizeOf, typeInfo, hi, Builtin.lenOf, hroom, hf, Addr.add_lit, h2, storeCells, run_store Yba.prog w ⟨U, c, none⟩ (.pointer (some ⟨s, 0, none⟩)) .plain rfl, hcell, hfz]

/-- 'clear' of a slice of pointers. -/
theorem run_clear_ptrs (w : World) (U c n cp m ty : Nat) (F : Nat → Value) (hr : w.rowIs U 46 m F) (hn : 0 < n) (hm : c + n ≤ m) :
    (Builtin.clear_ #[32] ty #[.slice (some ⟨U, c, none⟩) n cp]).run Yba.prog w = .ok (.tuple #[]) (w.setCells U c (List.replicate n (.pointer none))) := by
  refine Lib.run_clear_slice w 32 46 ty (.pointer none) Yba.underlying32 (fun w => by kernel_rfl) rfl rfl U c n cp hn (fun j hj => ?_) (fun j hj => hr.frozen _)
  rw [hr.cell (by omega)]
  rfl
theorem run_clear_none (w : World) (a : Addr) (cp ty : Nat) : (Builtin.clear_ #[32] ty #[.slice (some a) 0 cp]).run Yba.prog w = .ok (.tuple #[]) w := by kernel_rfl

/-! ### The uncounted slots -/
/-- What is fixed of the uncounted slots: of each block its group's block, and where its call's time lies, and which it is, where it is there. -/
structure UData where
  grp : Nat → Nat
  cal : Nat → Option (Nat × Int)

structure UIs (W : World) (C : UData) (s : Nat) : Prop where
  row : ∃ S, W.rowIs s 62 39 S ∧ S 12 = .pointer (some ⟨C.grp s, 0, none⟩) ∧ S 38 = .pointer ((C.cal s).map fun p => ⟨p.1, 0, none⟩)
  time : ∀ p, C.cal s = some p → ∃ f, W.rowIs p.1 27 3 f ∧ f 0 = .int .u64 (p.2 % 1000000000) ∧ f 1 = .int .i64 (p.2 / 1000000000) ∧ f 2 = .pointer none

theorem UIs.of_blocks {W W' : World} {C : UData} {s : Nat} (h : UIs W C s) (e : W'.heap[s]? = W.heap[s]?) (et : ∀ p, C.cal s = some p → W'.heap[p.1]? = W.heap[p.1]?) : UIs W' C s := by
  obtain ⟨S, hS, h1, h2⟩ := h.row
  refine ⟨⟨S, hS.of_block e, h1, h2⟩, fun p hp => ?_⟩
  obtain ⟨f, hf, h3⟩ := h.time p hp
  exact ⟨f, hf.of_block (et p hp), h3⟩
theorem UIs.lt {W : World} {C : UData} {s : Nat} (h : UIs W C s) : s < W.heap.size := by
  obtain ⟨S, hS, _⟩ := h.row
  exact hS.lt
theorem UIs.lt_time {W : World} {C : UData} {s : Nat} (h : UIs W C s) {p : Nat × Int} (hp : C.cal s = some p) : p.1 < W.heap.size := by
  obtain ⟨S, hS, _⟩ := h.time p hp
  exact hS.lt
theorem UIs.below {W W' : World} {C : UData} {s : Nat} (h : UIs W C s) (hb : Below W.heap.size W W') : UIs W' C s :=
  h.of_blocks (hb.block s h.lt) (fun _ hp => hb.block _ (h.lt_time hp))
/-- Kept but for rows of other types. -/
theorem UIs.kept {X : Nat → Prop} {W W' : World} {C : UData} {s : Nat} (h : UIs W C s) (hk : Kept X W W') (hX : ∀ k, X k → ∃ t n F, W.rowIs k t n F ∧ t ≠ 62 ∧ t ≠ 27) : UIs W' C s := by
  obtain ⟨S, hS, _⟩ := h.row
  refine h.of_blocks (hk.block s h.lt fun hx => ?_) (fun p hp => hk.block _ (h.lt_time hp) fun hx => ?_)
  · obtain ⟨t, n, F, hF, h1, _⟩ := hX s hx
    exact row_ne hF hS h1 rfl
  · obtain ⟨f, hf, _⟩ := h.time p hp
    obtain ⟨t, n, F, hF, _, h2⟩ := hX p.1 hx
    exact row_ne hF hf h2 rfl

/-! ### How the free times go -/
def updZ (fr : Nat → Int) (x : Nat) (f : Int) : Nat → Int := fun y => if y = x then f else fr y

/-- What one uncounted slot does to the free times. -/
def stepZ (D : GData) (C : UData) (now : Int) (fr : Nat → Int) (s : Nat) : Nat → Int :=
  match C.cal s with
  | some p => updZ fr (C.grp s) (laterZ (fr (C.grp s)) (p.2 + D.gap (C.grp s)))
  | none => if D.has (C.grp s) = true ∧ ¬ now < nextZ D (C.grp s) (fr (C.grp s)) then updZ fr (C.grp s) (now + D.gap (C.grp s)) else fr
def foldZ (D : GData) (C : UData) (now : Int) (fr : Nat → Int) (us : List Nat) : Nat → Int := us.foldl (stepZ D C now) fr
def keptL (C : UData) (us : List Nat) : List Nat := us.filter fun s => (C.cal s).isNone

theorem take_step (us : List Nat) (k : Nat) (h : k < us.length) : us.take (k + 1) = us.take k ++ [us.getD k 0] := by
  rw [List.take_succ_eq_append_getElem h, List.getD_eq_getElem?_getD, List.getElem?_eq_getElem h, Option.getD_some]
theorem foldZ_step (D : GData) (C : UData) (now : Int) (fr : Nat → Int) (us : List Nat) (k : Nat) (h : k < us.length) : foldZ D C now fr (us.take (k + 1)) = stepZ D C now (foldZ D C now fr (us.take k)) (us.getD k 0) := by
  rw [take_step us k h]
  simp [foldZ]
theorem keptL_step (C : UData) (us : List Nat) (k : Nat) (h : k < us.length) : keptL C (us.take (k + 1)) = if (C.cal (us.getD k 0)).isNone then keptL C (us.take k) ++ [us.getD k 0] else keptL C (us.take k) := by
  rw [take_step us k h]
  unfold keptL
  rw [List.filter_append]
  generalize us.getD k 0 = s
  cases hc : (C.cal s).isNone
  · rw [List.filter_cons_of_neg (by simp [hc])]
    simp
  · rw [List.filter_cons_of_pos (by simp [hc])]
    simp
theorem keptL_le (C : UData) (us : List Nat) (k : Nat) : (keptL C (us.take k)).length ≤ k := by
  have h1 : (keptL C (us.take k)).length ≤ (us.take k).length := List.length_filter_le _ _
  rw [List.length_take] at h1
  omega

/-! ### The invariant -/
structure CInv (w1 : World) (R g cap U m : Nat) (D : GData) (l0 : List Nat) (A : Nat → Value) (fr : Nat → Int) (wr : World) : Prop where
  heap : ∃ l, HIs wr R g cap D fr l ∧ l.Perm l0
  unc : wr.cell? ⟨R, 1, none⟩ = some (.slice (some ⟨U, 0, none⟩) m m)
  arr : wr.rowIs U 46 m A
  kept : Kept (fun k => k = g ∨ k = U ∨ k ∈ l0) w1 wr
  sa : ∀ x, x ∈ l0 → D.has x = true → D.sa x ≠ U

theorem CInv.below {w1 wr wr' : World} {R g cap U m : Nat} {D : GData} {l0 : List Nat} {A : Nat → Value} {fr : Nat → Int} (h : CInv w1 R g cap U m D l0 A fr wr) (hb : Below wr.heap.size wr wr') : CInv w1 R g cap U m D l0 A fr wr' := by
  obtain ⟨l, hl, hp⟩ := h.heap
  exact ⟨⟨l, hl.below hb, hp⟩, cell_kept hb h.unc, below_rowIs hb h.arr, h.kept.trans (Kept.of_below (X := fun _ => False) hb) (fun _ _ h => h.elim), h.sa⟩

theorem mem_at {l : List Nat} {x : Nat} (h : x ∈ l) : ∃ i, i < l.length ∧ l.getD i 0 = x := by
  obtain ⟨i, hi, e⟩ := List.mem_iff_getElem.1 h
  exact ⟨i, hi, by rw [List.getD_eq_getElem?_getD, List.getElem?_eq_getElem hi, Option.getD_some, e]⟩

theorem CInv.group {w1 wr : World} {R g cap U m : Nat} {D : GData} {l0 : List Nat} {A : Nat → Value} {fr : Nat → Int} (h : CInv w1 R g cap U m D l0 A fr wr) {x : Nat} (hx : x ∈ l0) : ∃ i : Nat, GroupIs wr D x (fr x) i := by
  obtain ⟨l, hl, hp⟩ := h.heap
  obtain ⟨i, hi, e⟩ := mem_at (hp.mem_iff.2 hx)
  exact ⟨i, e ▸ hl.groups i hi⟩

/-- A slot is kept. -/
theorem CInv.append {w1 wr : World} {R g cap U m : Nat} {D : GData} {l0 : List Nat} {A : Nat → Value} {fr : Nat → Int} (h : CInv w1 R g cap U m D l0 A fr wr) (c : Nat) (v : Value) : CInv w1 R g cap U m D l0 (fun k => if k = c then v else A k) fr (wr.setCell ⟨U, c, none⟩ v) := by
  obtain ⟨l, hl, hp⟩ := h.heap
  obtain ⟨F, hF, f0⟩ := hl.rv
  obtain ⟨G, hG, g0⟩ := hl.arr
  have nR := row_ne hF h.arr (by decide)
  refine ⟨⟨l, ⟨⟨F, hF.setOther nR _, f0⟩, ⟨G, hG.setOther (row_ne hG h.arr (by decide)) _, g0⟩, hl.room, fun k hk => ?_, hl.nodup⟩, hp⟩, ?_, h.arr.set c v, h.kept.setCell (a := ⟨U, c, none⟩) (.inr (.inl rfl)) v, h.sa⟩
  · obtain ⟨Gk, hGk, _⟩ := (hl.groups k hk).row
    refine (hl.groups k hk).other (a := ⟨U, c, none⟩) v (row_ne hGk h.arr (by decide)) (fun hh => ⟨h.sa _ (hp.mem_iff.1 (getD_mem l k hk)) hh, ?_⟩)
    obtain ⟨S, hS, _⟩ := ((hl.groups k hk).head hh).slot
    exact row_ne hS h.arr (by decide)
  · rw [← h.unc]
    exact World.cell?_setCell_other _ ⟨U, c, none⟩ ⟨R, 1, none⟩ _ (fun e => nR (by simpa using (congrArg Addr.block e).symm))

theorem updZ_same (fr : Nat → Int) (x : Nat) (f : Int) : updZ fr x f x = f := if_pos rfl
theorem updZ_other (fr : Nat → Int) {x y : Nat} (f : Int) (h : y ≠ x) : updZ fr x f y = fr y := if_neg h

/-- A group's free time is written. -/
theorem CInv.free {w1 wr : World} {R g cap U m : Nat} {D : GData} {l0 : List Nat} {A : Nat → Value} {fr : Nat → Int} (h : CInv w1 R g cap U m D l0 A fr wr) {x : Nat} (hx : x ∈ l0) (f : Int) :
    CInv w1 R g cap U m D l0 A (updZ fr x f) (((wr.setCell ⟨x, 2, none⟩ (.int .u64 (f % 1000000000))).setCell ⟨x, 3, none⟩ (.int .i64 (f / 1000000000))).setCell ⟨x, 4, none⟩ (.pointer none)) := by
  obtain ⟨l, hl, hp⟩ := h.heap
  obtain ⟨i, hi, e⟩ := mem_at (hp.mem_iff.2 hx)
  obtain ⟨F, hF, f0⟩ := hl.rv
  obtain ⟨G, hG, g0⟩ := hl.arr
  have gx := hl.groups i hi
  rw [e] at gx
  obtain ⟨Gx, hGx, cx⟩ := gx.row
  have nR := row_ne hF hGx (by decide)
  have nG := row_ne hG hGx (by decide)
  have nU := row_ne h.arr hGx (by decide)
  refine ⟨⟨l, ⟨⟨F, ((hF.setOther nR _).setOther nR _).setOther nR _, f0⟩, ⟨G, ((hG.setOther nG _).setOther nG _).setOther nG _, g0⟩, hl.room, fun k hk => ?_, hl.nodup⟩, hp⟩, ?_, ((h.arr.setOther nU _).setOther nU _).setOther nU _,
    ((h.kept.setCell (a := ⟨x, 2, none⟩) (.inr (.inr hx)) _).setCell (a := ⟨x, 3, none⟩) (.inr (.inr hx)) _).setCell (a := ⟨x, 4, none⟩) (.inr (.inr hx)) _, h.sa⟩
  · by_cases hki : k = i
    · subst hki
      rw [e, updZ_same]
      exact gx.free f
    · have hne : l.getD k 0 ≠ x := e ▸ getD_ne hl.nodup hk hi hki
      rw [updZ_other fr f hne]
      exact (((hl.groups k hk).other_group hGx hne 2 _).other_group (hGx.set 2 _) hne 3 _).other_group ((hGx.set 2 _).set 3 _) hne 4 _
  · rw [← h.unc]
    have hn : ∀ o, (⟨x, o, none⟩ : Addr) ≠ ⟨R, 1, none⟩ := fun o e => nR (by simpa using (congrArg Addr.block e).symm)
    rw [World.cell?_setCell_other _ ⟨x, 4, none⟩ ⟨R, 1, none⟩ _ (hn 4), World.cell?_setCell_other _ ⟨x, 3, none⟩ ⟨R, 1, none⟩ _ (hn 3), World.cell?_setCell_other _ ⟨x, 2, none⟩ ⟨R, 1, none⟩ _ (hn 2)]

/-- heap.Fix. -/
theorem CInv.fix {w1 wr wr' : World} {R g cap U m : Nat} {D : GData} {l0 l l' : List Nat} {A : Nat → Value} {fr : Nat → Int} (h : CInv w1 R g cap U m D l0 A fr wr) (hl : HIs wr R g cap D fr l) (hp : l.Perm l0) (hg : GHeap wr R g cap D fr l wr' l') : CInv w1 R g cap U m D l0 A fr wr' := by
  obtain ⟨F, hF, _⟩ := hl.rv
  obtain ⟨G, hG, _⟩ := hl.arr
  have nX : ∀ {b t n : Nat} {B : Nat → Value}, wr.rowIs b t n B → t ≠ 38 → t ≠ 45 → ¬ (b = g ∨ b ∈ l) := by
    intro b t n B hB h1 h2 hx
    rcases hx with rfl | hx
    · exact row_ne hB hG h1 rfl
    · obtain ⟨i, hi, e⟩ := mem_at hx
      obtain ⟨Gi, hGi, _⟩ := (hl.groups i hi).row
      exact row_ne hB hGi h2 e.symm
  refine ⟨⟨l', hg.h, hg.perm.trans hp⟩, ?_, hg.kept.rowIs h.arr (nX h.arr (by decide) (by decide)), h.kept.trans hg.kept (fun k _ hk => ?_), h.sa⟩
  · rw [← h.unc]
    exact World.cell?_of_block (a := ⟨R, 1, none⟩) (hg.kept.block R hF.lt (nX hF (by decide) (by decide)))
  · rcases hk with rfl | hk
    · exact .inl rfl
    · exact .inr (.inr (hp.mem_iff.1 hk))

theorem CInv.clear {w1 : World} {R g cap U m : Nat} {D : GData} {l0 : List Nat} {fr : Nat → Int} : ∀ (n o : Nat) (A : Nat → Value) (wr : World), CInv w1 R g cap U m D l0 A fr wr → ∃ A', CInv w1 R g cap U m D l0 A' fr (wr.setCells U o (List.replicate n (.pointer none))) ∧ ∀ j, A' j = if o ≤ j ∧ j < o + n then .pointer none else A j
  | 0, o, A, wr, h => ⟨A, h, fun j => by rw [if_neg (by omega)]⟩
  | n + 1, o, A, wr, h => by
    obtain ⟨A', h', e⟩ := CInv.clear n (o + 1) _ _ (h.append o (.pointer none))
    refine ⟨A', h', fun j => ?_⟩
    rw [e j]
    by_cases h1 : o + 1 ≤ j ∧ j < o + 1 + n
    · rw [if_pos h1, if_pos (by omega)]
    · rw [if_neg h1]
      by_cases h2 : j = o
      · simp [h2]
      · rw [if_neg h2, if_neg (by omega)]

theorem HIs.uncounted {W : World} {R g cap : Nat} {D : GData} {fr : Nat → Int} {l : List Nat} (h : HIs W R g cap D fr l) (v : Value) : HIs (W.setCell ⟨R, 1, none⟩ v) R g cap D fr l ∧ (W.setCell ⟨R, 1, none⟩ v).cell? ⟨R, 1, none⟩ = some v := by
  obtain ⟨F, hF, f0⟩ := h.rv
  obtain ⟨G, hG, g0⟩ := h.arr
  refine ⟨⟨⟨_, hF.set 1 v, by simpa using f0⟩, ⟨G, hG.setOther (row_ne hG hF (by decide)) v, g0⟩, h.room, fun k hk => ?_, h.nodup⟩, ?_⟩
  · obtain ⟨Gk, hGk, _⟩ := (h.groups k hk).row
    exact (h.groups k hk).other (a := ⟨R, 1, none⟩) v (row_ne hGk hF (by decide)) (fun hh => ((h.groups k hk).head hh).other_row hF (by decide) (by decide))
  · exact ((hF.set 1 v).cell (i := 1) (by omega)).trans (by simp)
end Go.Proofs.Ybulkbyaq
