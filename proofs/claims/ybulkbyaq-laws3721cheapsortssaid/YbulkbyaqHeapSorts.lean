/-
  The walk of LawS3721CHeapSorts.
-/
import Derived.Test.YbulkbyaqSortPlain
import Derived.Test.YbulkbyaqShelf
import Derived.Deep.RegionHeld3
namespace Go.Proofs.Ybulkbyaq
open Go.RowKit Go.Sort

/-- The cells of a new slot due at d. -/
def slotCells (d : Int) : Array Value := #[.string ⟨#[]⟩, .string ⟨#[]⟩, .int .i64 0, .int .i64 0, .int .u64 0, .int .i64 0, .pointer none, .int .u64 0, .int .i64 0, .pointer none, .nilFunc, .pointer none, .pointer none, .int .u64 (d % 1000000000), .int .i64 (d / 1000000000), .pointer none,
    .int .u64 0, .int .i64 0, .pointer none, .int .u64 0, .int .i64 0, .pointer none, .int .i64 0, .bool false, .bool false, .bool false, .int .i64 0, .int .i64 0, .int .u64 0, .int .i64 0, .pointer none, .bool false, .int .i64 0, .nilIface, .int .u64 0, .int .i64 0, .pointer none, .bool false, .pointer none]

theorem slot_new (W : World) (d : Int) : SlotIs (W.alloc (.cells (slotCells d) 62)) W.heap.size d :=
  ⟨fun k => (slotCells d)[k]?.getD undef, World.rowIs_alloc W _ 62 _ (fun i hi => by rw [Array.getElem?_eq_getElem hi]; rfl), rfl, rfl, rfl, rfl, rfl, rfl⟩

/-- One slot more is due. -/
def upd (due : Nat → Int) (id : Nat) (z : Int) : Nat → Int := fun k => if k = id then z else due k
theorem upd_self (due : Nat → Int) (id : Nat) (z : Int) : upd due id z id = z := by simp [upd]
theorem upd_other (due : Nat → Int) (id : Nat) (z : Int) (k : Nat) (h : k ≠ id) : upd due id z k = due k := by simp [upd, h]

theorem push_ready {wr W2 : World} {Q g cap : Nat} {due : Nat → Int} {l : List Nat} (z : Int) (h : QIs wr Q g cap due l) (hb : Below wr.heap.size wr W2) (hH : HeapK (keyOf due l) l.length) :
    QIs (W2.alloc (.cells (slotCells z) 62)) Q g cap (upd due W2.heap.size z) l ∧ SlotIs (W2.alloc (.cells (slotCells z) 62)) W2.heap.size (upd due W2.heap.size z W2.heap.size) ∧ W2.heap.size ∉ l ∧ W2.heap.size ≠ Q ∧ W2.heap.size ≠ g ∧
      HeapK (keyOf (upd due W2.heap.size z) l) l.length ∧ l.map (upd due W2.heap.size z) = l.map due := by
  have hs := hb.size
  have hl : ∀ k, k ∈ l → k ≠ W2.heap.size := fun k hk => by have := (h.slots k hk).lt; omega
  have hQ := h.qv.lt
  have hg : g < wr.heap.size := by obtain ⟨F, hF, _⟩ := h.arr; exact hF.lt
  have e : ∀ k, k ∈ l → due k = upd due W2.heap.size z k := fun k hk => (upd_other due _ z k (hl k hk)).symm
  refine ⟨((h.below hb).below ((Below.refl _ _).alloc (Nat.le_refl _) _)).congr e, by rw [upd_self]; exact slot_new W2 z, fun hm => hl _ hm rfl, by omega, by omega, fun k k0 kn => ?_, List.map_congr_left fun k hk => (e k hk).symm⟩
  have e2 : ∀ q, q < l.length → keyOf (upd due W2.heap.size z) l q = keyOf due l q := fun q hq => (e _ (getD_mem l q hq)).symm
  rw [e2 k kn, e2 _ (by omega)]
  exact hH k k0 kn

theorem take_more (zs : List Int) (k : Nat) (z : Int) (hk : k < zs.length) (hz : zs.getD k 0 = z) : zs.take (k + 1) = zs.take k ++ [z] := by
  rw [List.take_succ_eq_append_getElem hk]
  simp only [List.getD, List.getElem?_eq_getElem hk, Option.getD_some] at hz
  rw [hz]

theorem queue_new (w : World) (due : Nat → Int) : QIs ((w.alloc (.cells #[] 46)).alloc (.cells #[.slice (some ⟨w.heap.size, 0, none⟩) 0 0] 40)) (w.heap.size + 1) w.heap.size 0 due [] := by
  have r0 := World.rowIs_alloc w #[] 46 (fun _ => undef) (fun i hi => absurd hi (Nat.not_lt_zero _))
  have r1 := World.rowIs_alloc (w.alloc (.cells #[] 46)) #[.slice (some ⟨w.heap.size, 0, none⟩) 0 0] 40 (fun _ => .slice (some ⟨w.heap.size, 0, none⟩) 0 0) (fun i hi => by
    have : i = 0 := by simp at hi; omega
    subst this; rfl)
  simp only [World.size_alloc] at r1
  exact ⟨r1, ⟨_, r0.alloc _, fun k hk => absurd hk (Nat.not_lt_zero _)⟩, Nat.le_refl _, by unfold maxLen; omega, fun id hid => absurd hid (List.not_mem_nil), List.nodup_nil, by omega, List.not_mem_nil, List.not_mem_nil⟩

/-! ### The sorted copy -/
/-- v is a slice of the numbers ys, in a block from B on (where there are any). -/
def SrtIs (B : Nat) (W : World) (v : Value) (ys : List Int) : Prop :=
  ∃ p c, v = .slice p ys.length c ∧ (ys = [] ∨ ∃ S cap F, p = some ⟨S, 0, none⟩ ∧ B ≤ S ∧ W.rowIs S 2 cap F ∧ ys.length ≤ cap ∧ ∀ j, j < ys.length → F j = .int .i64 (ys.getD j 0))

theorem rowIs_sorted {W : World} {S t n : Nat} {F : Nat → Value} (h : W.rowIs S t n F) (d : Array Int) (q : Nat) (os : Array Obj) :
    (grow (putRow (Value.int .i64) (Sort.ahead W q) S 0 d) os).rowIs S t n (fun k => if k < d.size then .int .i64 d[k]! else F k) := by
  obtain ⟨c, hc, hs, hi⟩ := h
  have hlt : S < W.heap.size := (Array.getElem?_eq_some_iff.1 hc).1
  refine ⟨putCells (Value.int .i64) 0 d c, ?_, by simp [putCells, hs], fun i hin => ?_⟩
  · show ((W.heap.modify S _) ++ os)[S]? = _
    rw [Array.getElem?_append_left (by simpa using hlt), Array.getElem?_modify, if_pos rfl, hc]
    rfl
  · simp only [putCells, Array.getElem?_mapIdx, hi i hin, Option.map_some]
    by_cases h : i < d.size
    · rw [if_pos ⟨by omega, by omega⟩, if_pos h]
      rfl
    · rw [if_neg (by omega), if_neg h]

theorem kept_sorted (W : World) (S q : Nat) (d : Array Int) (os : Array Obj) : Kept (fun k => k = S) W (grow (putRow (Value.int .i64) (Sort.ahead W q) S 0 d) os) :=
  ⟨rfl, rfl, rfl, by show W.heap.size ≤ ((W.heap.modify S _) ++ os).size; simp, fun k hk hx => by
    show ((W.heap.modify S _) ++ os)[k]? = _
    rw [Array.getElem?_append_left (by simpa using hk), Array.getElem?_modify, if_neg (fun e => hx e.symm)]⟩

theorem clone_any (a0 : Option Addr) (n cap0 : Nat) (zs : List Int) (W : World) (hn : n ≤ 300) (hz : zs.length = n)
    (hv : ∀ i, i < n → ∃ b off, a0 = some ⟨b, off, none⟩ ∧ W.cell? ⟨b, off + i, none⟩ = some (.int .i64 (zs.getD i 0))) :
    Calls Yba.prog 15 #[.slice a0 n cap0] W fun e w' => ∃ v', e = .returned v' ∧ SrtIs W.heap.size w' v' zs ∧ Below W.heap.size W w' := by
  by_cases h0 : n = 0
  · have hzs : zs = [] := List.length_eq_zero_iff.1 (by omega)
    subst h0
    cases a0 with
    | none =>
      refine (Sh.slices_Clone_int_nil 0 cap0 W).mono ?_
      rintro e w' ⟨rfl, rfl⟩
      exact ⟨_, rfl, ⟨none, 0, by rw [hz], .inl hzs⟩, Below.refl _ _⟩
    | some a =>
      refine (Sh.slices_Clone_int_zero a cap0 W).mono ?_
      rintro e w' ⟨v', rfl, hown, _, hb⟩
      rcases hown.2 with ⟨rfl, _⟩ | ⟨g, cap, cur, rfl, _⟩
      · exact ⟨_, rfl, ⟨none, 0, by rw [hz], .inl hzs⟩, hb⟩
      · exact ⟨_, rfl, ⟨some ⟨g, 0, none⟩, cap, by rw [hz], .inl hzs⟩, hb⟩
  · obtain ⟨b, off, rfl, _⟩ := hv 0 (by omega)
    refine (Sh.slices_Clone_int b off n cap0 zs W (by omega) (by omega) (fun j hj => by
      obtain ⟨b', off', e, hc⟩ := hv j (by omega)
      simp only [Option.some.injEq, Addr.mk.injEq] at e
      obtain ⟨rfl, rfl, _⟩ := e
      exact hc)).mono ?_
    rintro e w' ⟨v', rfl, hown, _, hb⟩
    rcases hown.2 with ⟨_, h⟩ | ⟨g, cap, cur, rfl, hg, hcur, hnc, _, hsz, htake⟩
    · exact absurd h h0
    · have hlen : zs.take n = zs := List.take_of_length_le (by omega)
      rw [hlen] at htake
      refine ⟨_, rfl, ⟨some ⟨g, 0, none⟩, cap, by rw [hz], .inr ⟨g, cap, fun k => cur[k]?.getD undef, rfl, hg, ⟨cur, hcur, by omega, fun i hi => by
        have hi2 : i < cur.size := by omega
        simp [Array.getElem?_eq_getElem hi2]⟩, by omega, fun j hj => ?_⟩⟩, hb⟩
      have e1 : (cur.toList.take (n * 1))[j]? = cur[j]? := by rw [List.getElem?_take, if_pos (by omega), Array.getElem?_toList]
      show cur[j]?.getD undef = _
      rw [← e1, htake, List.getElem?_map]
      simp [List.getD, hj]

theorem sort_any (B : Nat) (v : Value) (zs : List Int) (W : World) (hn : zs.length ≤ 300) (h : SrtIs B W v zs) :
    Calls Yba.prog 16 #[v] W fun e w' => e = .returned (.tuple #[]) ∧ SrtIs B w' v (asc zs) ∧ Kept (fun k => B ≤ k ∧ ∃ cap F, W.rowIs k 2 cap F) W w' := by
  obtain ⟨p, c, rfl, hc | ⟨S, cap, F, rfl, hB, hr, hl, hF⟩⟩ := h
  · subst hc
    refine (Sh.slices_Sort_int_none p c W).mono ?_
    rintro e w' ⟨rfl, rfl⟩
    exact ⟨rfl, ⟨p, c, by rw [asc_length], .inl (by simp [asc])⟩, Kept.refl _ _⟩
  · refine (Sh.slices_Sort_int S 0 c zs W (fun j hj => ?_) hr.lt (by omega)).mono ?_
    · have hj' : j < zs.length := by simpa using hj
      rw [Nat.zero_add]
      refine ⟨(hr.cell (by omega)).trans ?_, hr.frozen j⟩
      rw [hF j hj']
      simp [List.getD, hj']
    · rintro e w' ⟨rfl, q, os, rfl⟩
      have e1 : (zs.mergeSort fun x y => decide (x ≤ y)) = asc zs := rfl
      rw [e1]
      refine ⟨rfl, ⟨some ⟨S, 0, none⟩, c, by rw [asc_length], .inr ⟨S, cap, _, rfl, hB, rowIs_sorted hr _ q os, by rw [asc_length]; exact hl, fun j hj => ?_⟩⟩, ?_⟩
      · simp only [List.size_toArray]
        rw [if_pos hj]
        simp [List.getD, hj]
      · have hk := kept_sorted W S q (asc zs).toArray os
        exact ⟨hk.os, hk.tape, hk.output, hk.size, fun k hkl hx => hk.block k hkl (fun e => hx (e ▸ ⟨hB, cap, F, hr⟩))⟩

theorem QIs.kept {W W' : World} {Q g cap : Nat} {due : Nat → Int} {l : List Nat} {X : Nat → Prop} (h : QIs W Q g cap due l) (hk : Kept X W W') (hQ : ¬ X Q) (hg : ¬ X g) (hl : ∀ x, x ∈ l → ¬ X x) : QIs W' Q g cap due l := by
  obtain ⟨F, hF, hFk⟩ := h.arr
  exact ⟨hk.rowIs h.qv hQ, ⟨F, hk.rowIs hF hg, hFk⟩, h.room, h.most, fun id hid => (h.slots id hid).of_block (hk.block id (h.slots id hid).lt (hl id hid)), h.nodup, h.apart⟩

theorem SrtIs.kept {B : Nat} {W W' : World} {v : Value} {ys : List Int} {X : Nat → Prop} (h : SrtIs B W v ys) (hk : Kept X W W') (hX : ∀ k cap F, W.rowIs k 2 cap F → ¬ X k) : SrtIs B W' v ys := by
  obtain ⟨p, c, rfl, hc | ⟨S, cap, F, rfl, hB, hr, hl, hF⟩⟩ := h
  · exact ⟨p, c, rfl, .inl hc⟩
  · exact ⟨_, c, rfl, .inr ⟨S, cap, F, rfl, hB, hk.rowIs hr (hX S cap F hr), hl, hF⟩⟩

theorem SrtIs.mono {B B' : Nat} {W : World} {v : Value} {ys : List Int} (h : SrtIs B W v ys) (hB : B' ≤ B) : SrtIs B' W v ys := by
  obtain ⟨p, c, rfl, hc | ⟨S, cap, F, rfl, hS, hr⟩⟩ := h
  · exact ⟨p, c, rfl, .inl hc⟩
  · exact ⟨_, c, rfl, .inr ⟨S, cap, F, rfl, by omega, hr⟩⟩

/-- No block of the queue's is a row of int64. -/
theorem QIs.noRow {W : World} {Q g cap : Nat} {due : Nat → Int} {l : List Nat} (h : QIs W Q g cap due l) (k cap' : Nat) (F : Nat → Value) (hr : W.rowIs k 2 cap' F) : ¬ (k = Q ∨ k = g ∨ k ∈ l) := by
  rintro (e | e | e)
  · exact row_type hr h.qv (by decide) e
  · obtain ⟨F, hF, _⟩ := h.arr
    exact row_type hr hF (by decide) e
  · obtain ⟨f, hf, _⟩ := h.slots k e
    exact row_type hr hf (by decide) rfl

theorem assert_slot2 (a : Addr) (w : World) : (Instr.typeAssert (.iface 46 (.pointer (some a))) 20 46 true).run Yba.prog w = .ok (.tuple #[.pointer (some a), .bool true]) w := by kernel_rfl

set_option maxRecDepth 100000 in
set_option maxHeartbeats 1600000 in
theorem heapsorts_any (a0 : Option Addr) (n cap0 : Nat) (zs : List Int) (w : World) (hn : n ≤ 300) (hz : zs.length = n)
    (hv : ∀ i, i < n → ∃ b off, a0 = some ⟨b, off, none⟩ ∧ b < w.heap.size ∧ w.cell? ⟨b, off + i, none⟩ = some (.int .i64 (zs.getD i 0)) ∧ -9223372036854775808 ≤ zs.getD i 0 ∧ zs.getD i 0 ≤ 9223372036854775807) :
    Calls Yba.prog 5 #[.slice a0 n cap0] w fun e w' => e = .returned (.bool true) ∧ Below w.heap.size w w' := by
  have HV := Lib.hid hv
  have HZ := Lib.hid hz
  have h300 : ¬ (300 < (n : Int)) := by omega
  clear hv hz
  go_enter Yba.func5, Yba.ntmps5
  go_wp2
  go_loopg [4] n (fun gh i wr => ∃ (k g cap : Nat) (due : Nat → Int) (l : List Nat), k + gh = n ∧ i = .int .i64 (k : Nat) ∧ w.heap.size ≤ g ∧ QIs wr (w.heap.size + 1) g cap due l ∧ (∀ x, x ∈ l → w.heap.size ≤ x) ∧ HeapK (keyOf due l) l.length ∧ (l.map due).Perm (zs.take k) ∧ Below w.heap.size w wr)
  case atStart => exact ⟨0, w.heap.size, 0, fun _ => 0, [], by omega, rfl, Nat.le_refl _, queue_new w _, fun x hx => absurd hx List.not_mem_nil, fun k k0 kn => absurd kn (Nat.not_lt_zero _), by simp, ((Below.refl _ _).alloc (Nat.le_refl _) _).alloc (by simp) _⟩
  case round =>
    obtain ⟨k, g, cap, due, l, hk, rfl, hg, hQ, hB, hH, hP, hbel⟩ := hrel
    have hlk : l.length = k := by
      have := hP.length_eq
      simp only [List.length_map, List.length_take, HZ.out] at this
      omega
    by_cases hlt : k < n
    · obtain ⟨b, off, rfl, hb, hcell0, hz0, hz1⟩ := HV.out k hlt
      have hcell := (hbel.cell (p := ⟨b, off + k, none⟩) hb).trans hcell0
      have HQ := Lib.hid hQ
      have HR := Lib.hid (And.intro hB (And.intro hH (And.intro hP hbel)))
      have Hlk := Lib.hid hlk
      clear hQ hB hH hP hbel hcell0 hlk
      generalize hzz : zs.getD k 0 = z at hcell hz0 hz1
      have Hzz := Lib.hid hzz
      clear hzz
      go_wp2_with fail
      refine (add_any 0 z _ ⟨by omega, by omega⟩ hz0 hz1).mono ?_
      rintro e w2 ⟨rfl, rfl⟩
      rw [Int.zero_add]
      have hsz := Lib.hid (show ((wr.alloc (.cells (tm z) 27)).alloc (.cells (tm z) 27)).heap.size = wr.heap.size + 1 + 1 by simp)
      have hb2 : Below wr.heap.size wr ((wr.alloc (.cells (tm z) 27)).alloc (.cells (tm z) 27)) := ((Below.refl _ _).alloc (Nat.le_refl _) _).alloc (by simp) _
      have HB2 := Lib.hid hb2
      clear hb2
      rw [show Value.agg (tm z) = .agg #[.int .u64 (z % 1000000000), .int .i64 (z / 1000000000), .pointer none] from rfl]
      generalize (wr.alloc (.cells (tm z) 27)).alloc (.cells (tm z) 27) = W2 at *
      obtain ⟨r1, r2, r3, r4, r5, r6, r7⟩ := push_ready z HQ.out HB2.out HR.out.2.1
      have hbW : w.heap.size ≤ (W2.alloc (.cells (slotCells z) 62)).heap.size := by
        have h1 := HR.out.2.2.2.size
        have h2 := HB2.out.size
        simp; omega
      have hlen1 : l.length ≤ 1000 := by have := Hlk.out; omega
      have hbid : w.heap.size ≤ W2.heap.size := Nat.le_trans HR.out.2.2.2.size HB2.out.size
      have hpush := heapPush_any w.heap.size (w.heap.size + 1) g cap W2.heap.size (upd due W2.heap.size z) l _ r1 r2 r3 r4 r5 hlen1 hg hbW (by omega) hbid HR.out.1 r6
      have HPU := Lib.hid hpush
      have HR7 := Lib.hid r7
      clear r1 r2 r3 r4 r5 r6 r7 hpush hbW hlen1
      go_wp2_with fail
      refine HPU.out.mono ?_
      rintro e w3 ⟨rfl, g', cap', l', hg', hq', hp', hh', hb'⟩
      have HN := Lib.hid (And.intro hq' (And.intro hp' (And.intro hh' hb')))
      clear hq' hp' hh' hb' HPU
      go_wp2
      go_roundg (gk - 1)
      case measure => omega
      case rel =>
        refine ⟨k + 1, g', cap', upd due W2.heap.size z, l', by omega, by go_num, hg', HN.out.1, fun x hx => ?_, HN.out.2.2.1, ?_, ?_⟩
        · rcases List.mem_append.1 (HN.out.2.1.mem_iff.1 hx) with h | h
          · exact HR.out.1 x h
          · have : x = W2.heap.size := by simpa using h
            rw [this]; exact hbid
        · rw [take_more zs k z (by rw [HZ.out]; exact hlt) Hzz.out]
          refine (HN.out.2.1.map _).trans ?_
          rw [List.map_append, HR7.out, List.map_cons, List.map_nil, upd_self]
          exact List.Perm.append_right [z] HR.out.2.2.1
        · refine (HR.out.2.2.2.trans ((HB2.out.trans ((Below.refl _ _).alloc HB2.out.size (.cells (slotCells z) 62))).mono HR.out.2.2.2.size)).trans ?_
          exact HN.out.2.2.2
    · have hkn : k = n := by omega
      subst hkn
      have htk : zs.take k = zs := List.take_of_length_le (by rw [HZ.out]; omega)
      rw [htk] at hP
      have hclone := clone_any a0 k cap0 zs wr hn HZ.out (fun i hi => by
        obtain ⟨b, off, e, hb, hc, _⟩ := HV.out i hi
        exact ⟨b, off, e, (hbel.cell (p := ⟨b, off + i, none⟩) hb).trans hc⟩)
      have HC := Lib.hid hclone
      have HQ := Lib.hid hQ
      have HR := Lib.hid (And.intro hB (And.intro hH (And.intro hP hbel)))
      have Hlk := Lib.hid hlk
      clear hQ hB hH hP hbel hlk htk hclone
      go_wp2_with fail
      refine HC.out.mono ?_
      rintro e w4 ⟨v4, rfl, hS4, hb4⟩
      have HQ4 := Lib.hid (HQ.out.below hb4)
      have HB4 := Lib.hid (HR.out.2.2.2.trans (hb4.mono HR.out.2.2.2.size))
      have HS4 := Lib.hid hS4
      have hsz4 := Lib.hid (Nat.le_trans HR.out.2.2.2.size hb4.size)
      have hBw := Lib.hid HR.out.2.2.2.size
      clear hS4 hb4 HC
      have hsort := sort_any wr.heap.size v4 zs w4 (by rw [HZ.out]; exact hn) HS4.out
      have HSO := Lib.hid hsort
      clear hsort
      go_wp2_with fail
      refine HSO.out.mono ?_
      rintro e w5 ⟨rfl, hS5, hk5⟩
      have hQ5 : QIs w5 (w.heap.size + 1) g cap due l := HQ4.out.kept hk5
        (fun h => by obtain ⟨_, c, F, hr⟩ := h; exact HQ4.out.noRow _ c F hr (.inl rfl))
        (fun h => by obtain ⟨_, c, F, hr⟩ := h; exact HQ4.out.noRow _ c F hr (.inr (.inl rfl)))
        (fun x hx h => by obtain ⟨_, c, F, hr⟩ := h; exact HQ4.out.noRow _ c F hr (.inr (.inr hx)))
      have hB5 : Below w.heap.size w w5 := HB4.out.trans (hk5.below hsz4.out (fun q hq => Nat.le_trans hBw.out hq.1))
      obtain ⟨p5, c5, hv5, hS5'⟩ := hS5
      have HS5 := Lib.hid ((show SrtIs wr.heap.size w5 v4 (asc zs) from ⟨p5, c5, hv5, hS5'⟩).mono hBw.out)
      have hal := asc_length zs
      rw [HZ.out] at hal
      rw [hal] at hv5
      subst hv5
      have HAL := Lib.hid hal
      have HQ5 := Lib.hid hQ5
      have HB5 := Lib.hid hB5
      clear hS5' hk5 hQ5 hB5 hal HSO HS4 HQ4 HB4 hsz4
      go_wp2
      go_loopg [6] k (fun gh i wi => ∃ (q : Nat) (l : List Nat), q + gh = k ∧ i = .int .i64 (q : Nat) ∧ QIs wi (w.heap.size + 1) g cap due l ∧ (∀ x, x ∈ l → w.heap.size ≤ x) ∧ HeapK (keyOf due l) l.length ∧ (l.map due).Perm ((asc zs).drop q) ∧ SrtIs w.heap.size wi (.slice p5 k c5) (asc zs) ∧ Below w.heap.size w wi)
      case atStart => exact ⟨0, l, by omega, rfl, HQ5.out, HR.out.1, HR.out.2.1, HR.out.2.2.1.trans (asc_perm zs).symm, HS5.out, HB5.out⟩
      case round =>
        obtain ⟨q, l2, hq, rfl, hQ2, hB2, hH2, hP2, hS2, hbel2⟩ := hrel
        have hl2 : l2.length = k - q := by
          have := hP2.length_eq
          simp only [List.length_map, List.length_drop, HAL.out] at this
          omega
        have hqv := hQ2.qv.cell (i := 0) (by omega)
        rw [hl2] at hqv
        by_cases hlt2 : q < k
        · obtain ⟨r, hr⟩ : ∃ r, k - q = r + 1 := ⟨k - q - 1, by omega⟩
          rw [hr] at hl2 hqv
          have hxq : q < (asc zs).length := by rw [HAL.out]; exact hlt2
          obtain ⟨x, hx⟩ : ∃ x, (asc zs).getD q 0 = x := ⟨_, rfl⟩
          have hdrop : (asc zs).drop q = x :: (asc zs).drop (q + 1) := by
            rw [List.drop_eq_getElem_cons hxq]
            simp only [List.getD, List.getElem?_eq_getElem hxq, Option.getD_some] at hx
            rw [hx]
          have hxr : -9223372036854775808 ≤ x ∧ x ≤ 9223372036854775807 := by
            have hmem : x ∈ asc zs := by rw [← hx]; simp [List.getD, hxq]
            obtain ⟨j, hj, e⟩ := List.mem_iff_getElem.1 ((asc_perm zs).mem_iff.1 hmem)
            obtain ⟨_, _, _, _, _, h1, h2⟩ := HV.out j (by rw [← HZ.out]; exact hj)
            simp only [List.getD, List.getElem?_eq_getElem hj, Option.getD_some] at h1 h2
            rw [e] at h1 h2
            exact ⟨h1, h2⟩
          rw [hdrop] at hP2
          have hsor : (x :: (asc zs).drop (q + 1)).Pairwise (fun x y => x ≤ y) := by
            rw [← hdrop]
            exact (asc_sorted zs).sublist (List.drop_sublist q _)
          have hH2' : HeapK (keyOf due l2) (r + 1) := hl2 ▸ hH2
          have hpop := heapPop_any (w.heap.size + 1) g cap r due l2 wr hQ2 hl2 (by omega) hH2'
          have HPO := Lib.hid hpop
          have HL2 := Lib.hid (And.intro hl2 (And.intro hH2' (And.intro hP2 hsor)))
          have HQ2 := Lib.hid hQ2
          have HM := Lib.hid (And.intro hB2 (And.intro hS2 hbel2))
          have HX := Lib.hid hx
          have hne : (((r : Int) + 1) != (k : Int) - (q : Int)) = false := by simp; omega
          have hrk := Lib.hid hr
          clear hpop hl2 hH2 hH2' hP2 hsor hQ2 hB2 hS2 hbel2 hx hdrop hxq hr HS5 HQ5 HB5 HQ HR
          obtain ⟨hx0, hx1⟩ := hxr
          go_wp2_with fail
          refine HPO.out.mono ?_
          rintro e w6 ⟨m, l', rfl, hm, hQ6, hp6, hH6, hs6, hi6, hk6⟩
          obtain ⟨hdm, hP6⟩ := pop_least due l2 l' r m x _ HL2.out.1 HL2.out.2.1 HL2.out.2.2.1 HL2.out.2.2.2 hm hp6
          have hS6 : SrtIs w.heap.size w6 (.slice p5 k c5) (asc zs) := HM.out.2.1.kept hk6 (fun a c F ha => HQ2.out.noRow a c F ha)
          have hb6 : Below w.heap.size w w6 := HM.out.2.2.trans (hk6.below HM.out.2.2.size (fun a ha => by
            rcases ha with rfl | rfl | ha
            · omega
            · exact hg
            · exact HM.out.1 a ha))
          obtain ⟨f6, hf6, t1, t2, t3, _⟩ := hs6
          rw [hdm] at t1 t2
          have d1 := (hf6.cell (i := 13) (by omega)).trans (by rw [t1])
          have d2 := (hf6.cell (i := 14) (by omega)).trans (by rw [t2])
          have d3 := (hf6.cell (i := 15) (by omega)).trans (by rw [t3])
          have hml := hf6.lt
          have hS6' := hS6
          obtain ⟨p6, c6, hv6, hcase⟩ := hS6'
          rw [HAL.out] at hv6
          simp only [Value.slice.injEq, true_and] at hv6
          obtain ⟨rfl, rfl⟩ := hv6
          rcases hcase with hnil | ⟨S, capS, FS, rfl, hBS, hrS, hlS, hFS⟩
          · have := HAL.out
            rw [hnil] at this
            simp at this
            omega
          have hcS := (hrS.cell (i := q) (by rw [HAL.out] at hlS; omega)).trans (by rw [hFS q (by rw [HAL.out]; exact hlt2), HX.out])
          have hSl := hrS.lt
          have H6 := Lib.hid (And.intro hQ6 (And.intro hp6 (And.intro hH6 (And.intro hP6 (And.intro hS6 hb6)))))
          have has := assert_slot2
          clear hQ6 hp6 hH6 hP6 hS6 hb6 hf6 t1 t2 t3 hrS hlS hFS hdm hm hk6 HPO HL2 hqv
          have hml1 : m < w6.heap.size + 1 := by omega
          have hml2 : m < w6.heap.size + 1 + 1 := by omega
          have hml3 : m < w6.heap.size + 1 + 1 + 1 := by omega
          have hSl1 : S < w6.heap.size + 1 := by omega
          have hSl2 : S < w6.heap.size + 1 + 1 := by omega
          have hSl3 : S < w6.heap.size + 1 + 1 + 1 := by omega
          go_wp2
          go_region_held3 (fun w' => w'.cell? ⟨m, 13, none⟩ = some (.int .u64 (x % 1000000000)) ∧ w'.cell? ⟨m, 14, none⟩ = some (.int .i64 (x / 1000000000)) ∧ w'.cell? ⟨m, 15, none⟩ = some (.pointer none) ∧
              w'.cell? ⟨S, q, none⟩ = some (.int .i64 x)) (simp [go_sem, twoBoxes, World.cell?_alloc_past, *])
            (first | (go_at_call 9; refine (add_any 0 x _ ⟨by omega, by omega⟩ hx0 hx1).mono ?_; rintro e w' ⟨rfl, rfl⟩; rw [Int.zero_add]) | (go_at_call 12; refine (equal_any x x _).mono ?_; rintro e w' ⟨rfl, rfl⟩; rw [decide_eq_true (Eq.refl x)]))
          go_wp2
          go_roundg (gk - 1)
          case measure => omega
          case rel =>
            have hbz : ∀ o1 o2 o3 o4 : Obj, Below w6.heap.size w6 ((((w6.alloc o1).alloc o2).alloc o3).alloc o4).drew := fun o1 o2 o3 o4 =>
              (((((Below.refl _ w6).alloc (Nat.le_refl _) o1).alloc (by simp) o2).alloc (by simp; omega) o3).alloc (by simp; omega) o4).drew
            refine ⟨q + 1, l', by omega, by go_num, H6.out.1.below (hbz _ _ _ _), fun a ha => HM.out.1 a (H6.out.2.1.mem_iff.1 (List.mem_append_left _ ha)), ?_, H6.out.2.2.2.1, H6.out.2.2.2.2.1.kept (X := fun _ => False) (Kept.of_below (hbz _ _ _ _)) (fun _ _ _ _ h => h), H6.out.2.2.2.2.2.trans ((hbz _ _ _ _).mono H6.out.2.2.2.2.2.size)⟩
            have hl' : l'.length = r := by
              have h1 := H6.out.2.2.2.1.length_eq
              simp only [List.length_map, List.length_drop, HAL.out] at h1
              have h2 := hrk.out
              omega
            rw [hl']
            exact H6.out.2.2.1
        · have hke : q = k := by omega
          subst hke
          rw [Nat.sub_self] at hqv
          clear hQ2 hB2 hH2 hP2 hS2 hl2 HS5 HQ5 HB5 HQ HR
          go_wp2
          go_ret
          exact ⟨rfl, hbel2⟩
end Go.Proofs.Ybulkbyaq
