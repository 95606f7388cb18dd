/-
  (*dueQueue).Push, container/heap's Push and Pop over a queue.
-/
import Derived.Test.YbulkbyaqQueue
import Derived.Test.YbulkbyaqHeapPlain
import Derived.Test.YbulkbyaqPop
namespace Go.Proofs.Ybulkbyaq
open Go.RowKit

theorem assert_plain (a : Addr) (w : World) : (Instr.typeAssert (.iface 46 (.pointer (some a))) 20 46 false).run Yba.prog w = .ok (.pointer (some a)) w := by kernel_rfl
theorem info46' : ∃ i, Yba.prog.info? 46 = some i ∧ i.zero = some (.pointer none) ∧ i.size = 1 ∧ i.bytes = 8 := by
  have h : (Yba.prog.info? 46).map (fun i => (i.zero, i.size, i.bytes)) = some (some (.pointer none), 1, 8) := by kernel_rfl
  obtain ⟨i, hi, h2⟩ := Option.map_eq_some_iff.1 h
  simp only [Prod.mk.injEq] at h2
  exact ⟨i, hi, h2.1, h2.2.1, h2.2.2⟩

set_option maxRecDepth 100000 in
set_option maxHeartbeats 800000 in
theorem pushm_raw (base Q g n cap id : Nat) (xs : List Value) (y : Value) (w : World) (hn : n ≤ 100000)
    (hq : w.cell? ⟨Q, 0, none⟩ = some (.slice (some ⟨g, 0, none⟩) n cap)) (hqf : w.frozen? ⟨Q, 0, none⟩ = false)
    (hx : w.cell? ⟨id, 26, none⟩ = some y) (hxf : w.frozen? ⟨id, 26, none⟩ = false) (_hid : id ≠ Q) (hQg : Q ≠ g) (hbase : base ≤ w.heap.size)
    (hown : ∀ o, ((w.setCell ⟨id, 26, none⟩ (.int .i64 (n : Nat))).alloc o).ownsRow base 46 1 (.slice (some ⟨g, 0, none⟩) n cap) n xs) :
    Calls Yba.prog 86 #[.pointer (some ⟨Q, 0, none⟩), .iface 46 (.pointer (some ⟨id, 0, none⟩))] w fun e w' => e = .returned (.tuple #[]) ∧
      ∃ v' w1, w1.ownsRow base 46 1 v' (n + 1) (xs ++ [.pointer (some ⟨id, 0, none⟩)]) ∧ World.grownBy ((w.setCell ⟨id, 26, none⟩ (.int .i64 (n : Nat))).alloc (.cells #[.pointer (some ⟨id, 0, none⟩)] 46)) w1 (some g) ∧ w' = w1.setCell ⟨Q, 0, none⟩ v' := by
  have lQ := lt_of_cell hq
  have has := assert_plain
  obtain ⟨i46, hi, hz0, hz1, hz2⟩ := info46'
  have HO := Lib.hid hown
  have HI := Lib.hid hi
  have HZ := Lib.hid (And.intro hz0 (And.intro hz1 hz2))
  clear hown hi hz0 hz1 hz2
  go_enter Yba.func86, Yba.ntmps86
  go_wp2_with (first | (at_builtin; refine wpList_append_own _ rfl _ _ 40 rfl base 46 i46 (.pointer none) 1 8 Yba.underlying40 HI.out HZ.out.1 HZ.out.2.1 HZ.out.2.2 rfl (by decide) _ _ _ rfl (HO.out _) ⟨w.heap.size, 0, none⟩ 1 1 [.pointer (some ⟨id, 0, none⟩)] rfl rfl ?c1 ?c2 ?c3 ?c4 ?c5 ?_))
  case c1 =>
    intro j u hj
    match j, hj with
    | 0, hj =>
      simp at hj
      subst hj
      have e : w.heap.size = (w.setCell ⟨id, 26, none⟩ (.int .i64 (n : Nat))).heap.size := by simp
      rw [e]
      exact (cell_one_new _ _ _) 0 _ rfl
  case c2 => intro u hu; simp at hu; subst hu; rfl
  case c3 => unfold maxLen; omega
  case c4 => omega
  case c5 => simp; omega
  · intro v' w1 hown' hg _
    have hlQ : Q < ((w.setCell ⟨id, 26, none⟩ (.int .i64 (n : Nat))).alloc (.cells #[.pointer (some ⟨id, 0, none⟩)] 46)).heap.size := by simp; omega
    have hbQ := hg.block Q hlQ (fun e => hQg (by simpa [Value.ownBlock] using e))
    have e1 : w1.cell? ⟨Q, 0, none⟩ = some (.slice (some ⟨g, 0, none⟩) n cap) := by
      rw [World.cell?_of_block (a := ⟨Q, 0, none⟩) hbQ]
      go_simp
    have e2 : w1.frozen? ⟨Q, 0, none⟩ = false := by
      rw [World.frozen?_of_block (a := ⟨Q, 0, none⟩) hbQ]
      go_simp
    obtain ⟨g', cap', hv⟩ : ∃ g' cap', v' = .slice (some ⟨g', 0, none⟩) (n + 1) cap' := by
      rcases hown'.2 with ⟨_, h0⟩ | ⟨g', cap', _, hv, _⟩
      · omega
      · exact ⟨g', cap', hv⟩
    subst hv
    have HW := Lib.hid (And.intro hown' hg)
    clear hown' hg hbQ hlQ
    go_wp2
    go_end0
    exact ⟨rfl, _, w1, HW.out.1, HW.out.2, rfl⟩

/-- The own row that a queue's array is, behind the store of an index and a new block. -/
theorem QIs.owns {W : World} {Q g cap : Nat} {due : Nat → Int} {l : List Nat} (h : QIs W Q g cap due l) {base id : Nat} (hb : base ≤ g) (hid : id ≠ g) (v : Value) (o : Obj) :
    ((W.setCell ⟨id, 26, none⟩ v).alloc o).ownsRow base 46 1 (.slice (some ⟨g, 0, none⟩) l.length cap) l.length (l.map fun k => .pointer (some ⟨k, 0, none⟩)) := by
  obtain ⟨F, ⟨c, hc, hs, hi⟩, hk⟩ := h.arr
  have hlt : g < W.heap.size := (Array.getElem?_eq_some_iff.1 hc).1
  have hroom := h.room
  refine ⟨by simp, .inr ⟨g, cap, c, rfl, hb, ?_, h.room, h.most, by omega, ?_⟩⟩
  · rw [Below.heap_alloc _ _ _ (by simpa using hlt), Below.heap_setCell _ _ _ _ (by exact Ne.symm hid)]
    exact hc
  · apply List.ext_getElem?
    intro k
    rw [List.getElem?_take, List.getElem?_map]
    by_cases hkl : k < l.length
    · rw [if_pos (by omega), Array.getElem?_toList, hi k (by omega), hk k hkl]
      simp [List.getD, hkl]
    · rw [if_neg (by omega), List.getElem?_eq_none (by omega)]
      rfl

theorem row_type {W : World} {b b' t t' n n' : Nat} {f f' : Nat → Value} (h : W.rowIs b t n f) (h' : W.rowIs b' t' n' f') (ht : t ≠ t') : b ≠ b' := by
  rintro rfl
  obtain ⟨c, hc, _⟩ := h
  obtain ⟨c', hc', _⟩ := h'
  rw [hc] at hc'
  simp only [Option.some.injEq, Obj.cells.injEq] at hc'
  exact ht hc'.2.1

theorem push_method (base Q g cap id : Nat) (due : Nat → Int) (d : Int) (l : List Nat) (w : World) (h : QIs w Q g cap due l) (hs : SlotIs w id d) (hidl : id ∉ l) (hidQ : id ≠ Q) (hidg : id ≠ g) (hlen : l.length ≤ 100000) (hb : base ≤ g) (hbw : base ≤ w.heap.size) :
    Calls Yba.prog 86 #[.pointer (some ⟨Q, 0, none⟩), .iface 46 (.pointer (some ⟨id, 0, none⟩))] w fun e w' => e = .returned (.tuple #[]) ∧
      ∃ g' cap', base ≤ g' ∧ QIs w' Q g' cap' (fun k => if k = id then d else due k) (l ++ [id]) ∧ Kept (fun k => k = Q ∨ k = g ∨ k = id) w w' := by
  obtain ⟨hQg, hQl, hgl⟩ := h.apart
  have hs' := hs
  obtain ⟨f, hf, _⟩ := hs'
  refine (pushm_raw base Q g l.length cap id _ _ w hlen (h.qv.cell (i := 0) (by omega)) (h.qv.frozen 0) (hf.cell (i := 26) (by omega)) (hf.frozen 26) hidQ hQg hbw (fun o => h.owns hb hidg _ o)).mono ?_
  rintro e w' ⟨rfl, v', w1, hown, hg, rfl⟩
  refine ⟨rfl, ?_⟩
  rcases hown with ⟨hlen', hv | ⟨g', cap', cur, rfl, hb', hcur, hn', hm', hsz, htake⟩⟩
  · omega
  have keep : ∀ k, k < w.heap.size → k ≠ g → k ≠ id → w1.heap[k]? = w.heap[k]? := fun k hk h1 h2 => by
    rw [hg.block k (by simp; omega) (fun e => h1 (by simpa using e)), Below.heap_alloc _ _ _ (by simpa using hk), Below.heap_setCell _ _ _ _ (by exact h2)]
  have slot1 : ∀ k dd, SlotIs w k dd → k ≠ g → SlotIs w1 k dd := fun k dd hk h1 =>
    ((hk.index id (.int .i64 (l.length : Nat))).alloc (.cells #[.pointer (some ⟨id, 0, none⟩)] 46)).of_block (hg.block k (by have := hk.lt; simp; omega) (fun e => h1 (by simpa using e)))
  have rQ : w1.rowIs Q 40 1 (fun _ => .slice (some ⟨g, 0, none⟩) l.length cap) := h.qv.of_block (keep Q h.qv.lt hQg (Ne.symm hidQ))
  have rg : w1.rowIs g' 46 cap' (fun k => cur[k]?.getD undef) := ⟨cur, hcur, by omega, fun i hi => by
    have hi2 : i < cur.size := by omega
    simp [Array.getElem?_eq_getElem hi2]⟩
  have nQ : Q ≠ g' := row_type rQ rg (by decide)
  have nS : ∀ k dd, SlotIs w1 k dd → k ≠ g' := fun k dd hk => by
    obtain ⟨f, hr, _⟩ := hk
    exact row_type hr rg (by decide)
  refine ⟨g', cap', hb', ⟨?_, ⟨_, rg.setOther (Ne.symm nQ) _, fun k hk => ?_⟩, by simpa using hn', hm', fun k hk => ?_, ?_, nQ, ?_, ?_⟩, ?_⟩
  · rw [List.length_append]
    exact (rQ.set 0 _).congr fun i hi => by
      have : i = 0 := by omega
      simp [this]
  · have hk1 : k < l.length + 1 := by simpa using hk
    have e1 : (cur.toList.take ((l.length + 1) * 1))[k]? = cur[k]? := by
      rw [List.getElem?_take, if_pos (by omega), Array.getElem?_toList]
    rw [← e1, htake]
    by_cases hkl : k < l.length
    · rw [List.getElem?_append_left (by simpa using hkl), List.getD, List.getElem?_append_left hkl]
      simp [hkl]
    · have : k = l.length := by omega
      subst this
      simp [List.getD]
  · rcases List.mem_append.1 hk with hk | hk
    · have hne : k ≠ id := fun e => hidl (e ▸ hk)
      rw [if_neg hne]
      exact (slot1 k _ (h.slots k hk) (fun e => hgl (e ▸ hk))).other (a := ⟨Q, 0, none⟩) (fun e => hQl ((show k = Q from e) ▸ hk)) _
    · have : k = id := by simpa using hk
      subst this
      rw [if_pos rfl]
      exact (slot1 k _ hs hidg).other (a := ⟨Q, 0, none⟩) hidQ _
  · rw [List.nodup_append]
    refine ⟨h.nodup, by simp, fun a ha b hb e => hidl ?_⟩
    have hbi : b = id := by simpa using hb
    rw [← hbi, ← e]
    exact ha
  · intro hmem
    rcases List.mem_append.1 hmem with hm | hm
    · exact hQl hm
    · exact hidQ (by simpa using hm : Q = id).symm
  · intro hmem
    rcases List.mem_append.1 hmem with hm | hm
    · exact nS g' _ (slot1 g' _ (h.slots g' hm) (fun e => hgl (e ▸ hm))) rfl
    · have : g' = id := by simpa using hm
      exact nS id _ (slot1 id _ hs hidg) this.symm
  · refine ⟨hg.os, hg.tape, hg.output, by have := hg.size; simp at this ⊢; omega, fun k hk hx => ?_⟩
    have h1 : k ≠ Q := fun e => hx (.inl e)
    have h2 : k ≠ g := fun e => hx (.inr (.inl e))
    have h3 : k ≠ id := fun e => hx (.inr (.inr e))
    rw [Below.heap_setCell _ _ _ _ (by exact h1)]
    exact keep k hk h2 h3
end Go.Proofs.Ybulkbyaq
