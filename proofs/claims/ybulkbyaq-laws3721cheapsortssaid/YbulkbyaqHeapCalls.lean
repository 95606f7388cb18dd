/-
  container/heap's Push and Pop over a queue of slots.
-/
import Derived.Test.YbulkbyaqPush
namespace Go.Proofs.Ybulkbyaq
open Go.RowKit

/-- The key at a place. -/
def keyOf (due : Nat → Int) (l : List Nat) : Nat → Int := fun k => due (l.getD k 0)

theorem keyOf_swap (due : Nat → Int) (l : List Nat) (i j : Nat) (hi : i < l.length) (hj : j < l.length) : keyOf due (swapL l i j) = swapK (keyOf due l) i j := by
  funext k
  unfold keyOf swapK
  rw [swapL_getD l i j k hi hj]
  by_cases h1 : k = j
  · simp [h1]
  · by_cases h2 : k = i
    · rw [if_neg h1, if_neg h1, if_pos h2, if_pos h2]
    · rw [if_neg h1, if_neg h1, if_neg h2, if_neg h2]

theorem QIs.congr {W : World} {Q g cap : Nat} {due due' : Nat → Int} {l : List Nat} (h : QIs W Q g cap due l) (e : ∀ k, k ∈ l → due k = due' k) : QIs W Q g cap due' l :=
  ⟨h.qv, h.arr, h.room, h.most, fun id hid => e id hid ▸ h.slots id hid, h.nodup, h.apart⟩

set_option maxHeartbeats 400000 in
theorem len_any (a : Option Addr) (n cap : Nat) (w : World) : Calls Yba.prog 77 #[.slice a n cap] w fun e w' => e = .returned (.int .i64 (n : Nat)) ∧ w' = w := by
  go_enter Yba.func77, Yba.ntmps77
  go_wp2
  go_ret
  exact ⟨rfl, rfl⟩

set_option maxRecDepth 100000 in
set_option maxHeartbeats 800000 in
theorem heapPush_any (base Q g cap id : Nat) (due : Nat → Int) (l : List Nat) (w : World) (h : QIs w Q g cap due l) (hs : SlotIs w id (due id)) (hidl : id ∉ l) (hidQ : id ≠ Q) (hidg : id ≠ g) (hlen : l.length ≤ 1000)
    (hb : base ≤ g) (hbw : base ≤ w.heap.size) (hbQ : base ≤ Q) (hbi : base ≤ id) (hbl : ∀ k, k ∈ l → base ≤ k) (hH : HeapK (keyOf due l) l.length) :
    Calls Yba.prog 14 #[.iface 77 (.pointer (some ⟨Q, 0, none⟩)), .iface 46 (.pointer (some ⟨id, 0, none⟩))] w fun e w' => e = .returned (.tuple #[]) ∧
      ∃ g' cap' l', base ≤ g' ∧ QIs w' Q g' cap' due l' ∧ l'.Perm (l ++ [id]) ∧ HeapK (keyOf due l') l'.length ∧ Below base w w' := by
  have HP := Lib.hid (push_method base Q g cap id due (due id) l w h hs hidl hidQ hidg (by omega) hb hbw)
  have hm1 := meth_push
  have HH := Lib.hid hH
  have HL := Lib.hid hbl
  clear h hs hH hbl
  go_enter Yba.func14, Yba.ntmps14
  go_wp2_with fail
  refine HP.out.mono ?_
  rintro e w1 ⟨rfl, g', cap', hg', hq1', hk1⟩
  have hq1 : QIs w1 Q g' cap' due (l ++ [id]) := hq1'.congr fun k _ => by by_cases e : k = id <;> simp [e]
  have hlen1 : (l ++ [id]).length = l.length + 1 := by simp
  have hm2 := meth_len Q w1 _ (hq1.qv.cell (i := 0) (by omega))
  have HQ := Lib.hid hq1
  have HK := Lib.hid hk1
  have H1 := Lib.hid hlen1
  rw [hlen1] at hm2
  clear hq1 hq1' hk1 HP hm1 hlen1
  go_wp2_with fail
  refine (len_any _ _ _ _).mono ?_
  rintro e w' ⟨rfl, rfl⟩
  clear hm2
  go_wp2_with fail
  have hI : QHeap w' Q g' cap' due (l ++ [id]) w' (l ++ [id]) := ⟨HQ.out, List.Perm.refl _, Kept.refl _ _⟩
  have hJ0 : UpInv (keyOf due (l ++ [id])) (l ++ [id]).length l.length := by
    rw [H1.out]
    refine heap_push _ _ fun k k0 kn => ?_
    have e : ∀ m, m < l.length → keyOf due (l ++ [id]) m = keyOf due l m := fun m hm => by simp [keyOf, List.getD, List.getElem?_append_left hm]
    rw [e k kn, e _ (by omega)]
    exact HH.out k k0 kn
  have hup := up_any Q l.length (QHeap w' Q g' cap' due (l ++ [id])) (dueLess due) (fun l j => UpInv (keyOf due l) l.length j) (fun l => HeapK (keyOf due l) l.length) (l ++ [id]) w'
    (due_less w' Q g' cap' due (l ++ [id]) (by rw [H1.out]; omega)) (due_swap w' Q g' cap' due (l ++ [id]) (by rw [H1.out]; omega)) hI (by rw [H1.out]; omega) (by rw [H1.out]; omega) hJ0
    (fun l j hJ j0 hj hlt => by
      rw [keyOf_swap due l _ j (by omega) hj, swapL_length]
      exact up_step _ _ j hJ j0 hj (of_decide_eq_true hlt.symm))
    (fun l j hJ hj hd => up_done _ _ j hJ (by
      rcases hd with hd | hd
      · exact .inl hd
      · have := of_decide_eq_false hd.symm
        exact .inr (by unfold keyOf; omega)))
  refine hup.mono ?_
  rintro e w2 ⟨rfl, l', hq2, hH2, _⟩
  have HQ2 := Lib.hid hq2
  have HH2 := Lib.hid hH2
  clear hq2 hH2 hI hJ0 hup
  go_wp2
  go_end0
  refine ⟨rfl, g', cap', l', hg', HQ2.out.q, HQ2.out.perm, HH2.out, ?_⟩
  have hb1 : Below base w w' := HK.out.below hbw (fun k hk => by rcases hk with rfl | rfl | rfl <;> assumption)
  refine hb1.trans (HQ2.out.kept.below (Nat.le_trans hbw hb1.size) fun k hk => ?_)
  rcases hk with rfl | rfl | hk
  · exact hbQ
  · exact hg'
  · rcases List.mem_append.1 hk with hk | hk
    · exact HL.out k hk
    · have : k = id := by simpa using hk
      rw [this]; exact hbi

set_option maxHeartbeats 400000 in
theorem pop_big (Q b sb m cap : Nat) (v : Value) (w : World)
    (hq : w.cell? ⟨Q, 0, none⟩ = some (.slice (some ⟨b, 0, none⟩) (m + 1) cap)) (hqf : w.frozen? ⟨Q, 0, none⟩ = false)
    (hc : w.cell? ⟨b, m, none⟩ = some (.pointer (some ⟨sb, 0, none⟩))) (hcf : w.frozen? ⟨b, m, none⟩ = false)
    (hs : w.cell? ⟨sb, 26, none⟩ = some v) (hsf : w.frozen? ⟨sb, 26, none⟩ = false)
    (hm : m < cap) (hm2 : m ≤ 100000) (h1 : Q ≠ b) (h2 : sb ≠ b) (h3 : sb ≠ Q) :
    Calls Yba.prog 13 #[.pointer (some ⟨Q, 0, none⟩)] w fun e w' => e = .returned (.iface 46 (.pointer (some ⟨sb, 0, none⟩))) ∧
      w' = ((w.setCell ⟨b, m, none⟩ (.pointer none)).setCell ⟨Q, 0, none⟩ (.slice (some ⟨b, 0, none⟩) m cap)).setCell ⟨sb, 26, none⟩ (.int .i64 (-1)) := by
  go_enter Yba.func13, Yba.ntmps13
  go_wp2
  go_ret
  exact ⟨rfl, rfl⟩

theorem take_last (l : List Nat) (n m : Nat) (hl : l.length = n + 1) (hm : l.getD n 0 = m) : l.take n ++ [m] = l := by
  apply List.ext_getElem?
  intro k
  by_cases hk : k < n
  · rw [List.getElem?_append_left (by simp; omega), List.getElem?_take, if_pos hk]
  · by_cases e : k = n
    · subst e
      have h1 : (l.take k).length = k := by simp; omega
      rw [List.getElem?_append_right (by omega), h1]
      have hkl : k < l.length := by omega
      simp only [List.getD, List.getElem?_eq_getElem hkl, Option.getD_some] at hm
      rw [List.getElem?_eq_getElem hkl, hm]
      simp
    · rw [List.getElem?_eq_none (by simp; omega), List.getElem?_eq_none (by omega)]

theorem QIs.popped {W : World} {Q g cap n m : Nat} {due : Nat → Int} {l : List Nat} (h : QIs W Q g cap due l) (hl : l.length = n + 1) (hm : l.getD n 0 = m) :
    QIs (((W.setCell ⟨g, n, none⟩ (.pointer none)).setCell ⟨Q, 0, none⟩ (.slice (some ⟨g, 0, none⟩) n cap)).setCell ⟨m, 26, none⟩ (.int .i64 (-1))) Q g cap due (l.take n) ∧
    SlotIs (((W.setCell ⟨g, n, none⟩ (.pointer none)).setCell ⟨Q, 0, none⟩ (.slice (some ⟨g, 0, none⟩) n cap)).setCell ⟨m, 26, none⟩ (.int .i64 (-1))) m (due m) ∧
    (((W.setCell ⟨g, n, none⟩ (.pointer none)).setCell ⟨Q, 0, none⟩ (.slice (some ⟨g, 0, none⟩) n cap)).setCell ⟨m, 26, none⟩ (.int .i64 (-1))).cell? ⟨m, 26, none⟩ = some (.int .i64 (-1)) := by
  obtain ⟨hQg, hQl, hgl⟩ := h.apart
  have hml : m ∈ l := hm ▸ getD_mem l n (by omega)
  have nQ : Q ≠ m := fun e => hQl (e ▸ hml)
  have ng : g ≠ m := fun e => hgl (e ▸ hml)
  obtain ⟨F, hF, hk⟩ := h.arr
  have hroom := h.room
  have hlt : (l.take n).length = n := by simp; omega
  have hsl : ∀ k, k ∈ l → SlotIs (((W.setCell ⟨g, n, none⟩ (.pointer none)).setCell ⟨Q, 0, none⟩ (.slice (some ⟨g, 0, none⟩) n cap)).setCell ⟨m, 26, none⟩ (.int .i64 (-1))) k (due k) := fun k hkl =>
    (((h.slots k hkl).other (a := ⟨g, n, none⟩) (fun e => hgl ((show k = g from e) ▸ hkl)) _).other (a := ⟨Q, 0, none⟩) (fun e => hQl ((show k = Q from e) ▸ hkl)) _).index _ _
  refine ⟨⟨?_, ⟨_, ((hF.set n _).setOther (Ne.symm hQg) _).setOther ng _, fun k hkn => ?_⟩, by omega, h.most, fun k hkl => hsl k (List.mem_of_mem_take hkl), (List.take_sublist n l).nodup h.nodup, hQg, fun e => hQl (List.mem_of_mem_take e), fun e => hgl (List.mem_of_mem_take e)⟩, hsl m hml, ?_⟩
  · rw [hlt]
    exact (((h.qv.setOther hQg _).set 0 _).setOther nQ _).congr fun i hi => by
      have : i = 0 := by omega
      simp [this]
  · rw [hlt] at hkn
    show (if k = n then _ else F k) = _
    rw [if_neg (by omega), hk k (by omega), List.getD, List.getD, List.getElem?_take, if_pos hkn]
  · obtain ⟨f, hf, _⟩ := h.slots m hml
    have hr := ((hf.setOther (a := ⟨g, n, none⟩) (Ne.symm ng) (.pointer none)).setOther (a := ⟨Q, 0, none⟩) (Ne.symm nQ) (.slice (some ⟨g, 0, none⟩) n cap)).set 26 (.int .i64 (-1))
    exact (hr.cell (i := 26) (by omega)).trans (by simp)

set_option maxRecDepth 100000 in
set_option maxHeartbeats 1600000 in
theorem heapPop_any (Q g cap n : Nat) (due : Nat → Int) (l : List Nat) (w : World) (h : QIs w Q g cap due l) (hl : l.length = n + 1) (hlen : n ≤ 1000) (hH : HeapK (keyOf due l) (n + 1)) :
    Calls Yba.prog 17 #[.iface 77 (.pointer (some ⟨Q, 0, none⟩))] w fun e w' => ∃ m l', e = .returned (.iface 46 (.pointer (some ⟨m, 0, none⟩))) ∧ m = l.getD 0 0 ∧ QIs w' Q g cap due l' ∧ (l' ++ [m]).Perm l ∧ HeapK (keyOf due l') n ∧
      SlotIs w' m (due m) ∧ w'.cell? ⟨m, 26, none⟩ = some (.int .i64 (-1)) ∧ Kept (fun k => k = Q ∨ k = g ∨ k ∈ l) w w' := by
  have hm1 := meth_len Q w _ (h.qv.cell (i := 0) (by omega))
  rw [hl] at hm1
  have hS := due_swap w Q g cap due l (by omega)
  obtain ⟨v2, hv2, hsw⟩ := hS w l 0 n ⟨h, List.Perm.refl _, Kept.refl _ _⟩ (by omega) (by omega)
  have hm2 := meth_swap Q w v2 hv2
  have hm4 := meth_pop
  have HSW := Lib.hid hsw
  have HS := Lib.hid hS
  have HH := Lib.hid hH
  have HQ := Lib.hid h
  have HL := Lib.hid hl
  clear hsw hS hH h hl hv2
  go_enter Yba.func17, Yba.ntmps17
  go_wp2_with fail
  refine (len_any _ _ _ _).mono ?_
  rintro e w' ⟨rfl, rfl⟩
  clear hm1
  go_wp2_with fail
  refine HSW.out.mono ?_
  rintro e w1 ⟨rfl, hq1⟩
  have HQ1 := Lib.hid hq1
  clear hq1 HSW hm2
  go_wp2_with fail
  have l1 : (swapL l 0 n).length = n + 1 := by rw [swapL_length]; exact HL.out
  have hn0 : 0 < l.length := by rw [HL.out]; omega
  have hnl : n < l.length := by rw [HL.out]; omega
  have hJ0 : (swapL l 0 n).getD n 0 = l.getD 0 0 ∧ DownInv (keyOf due (swapL l 0 n)) n 0 ∧ (swapL l 0 n).length = n + 1 := by
    refine ⟨by rw [swapL_getD l 0 n n hn0 hnl, if_pos rfl], heap_pop (keyOf due l) _ n HH.out fun k k0 kn => ?_, l1⟩
    unfold keyOf
    rw [swapL_getD l 0 n k hn0 hnl, if_neg (by omega), if_neg (by omega)]
  have hdown := down_any Q 0 n (QHeap w' Q g cap due l) (dueLess due) (fun x i => x.getD n 0 = l.getD 0 0 ∧ DownInv (keyOf due x) n i ∧ x.length = n + 1) (fun x _ => x.getD n 0 = l.getD 0 0 ∧ HeapK (keyOf due x) n) (swapL l 0 n) w1
    (due_less w' Q g cap due l (by rw [HL.out]; omega)) HS.out HQ1.out (by omega) (by omega) (by omega) hJ0
    (fun x i j hJ hi h2 hc hlt => by
      obtain ⟨j1, j2, j3⟩ := hJ
      have hj : j < n := by rcases hc with ⟨e, _⟩ | ⟨_, e, _⟩ <;> omega
      refine ⟨?_, ?_, by rw [swapL_length]; exact j3⟩
      · rw [swapL_getD x i j n (by omega) (by omega), if_neg (by omega), if_neg (by omega)]
        exact j1
      · rw [keyOf_swap due x i j (by omega) (by omega)]
        refine down_step _ n i j j2 ?_ hj (of_decide_eq_true hlt.symm)
        rcases hc with ⟨e, ho⟩ | ⟨e, _, ho⟩
        · exact .inl ⟨e, fun hh => by have := of_decide_eq_false (ho hh).symm; unfold keyOf; omega⟩
        · exact .inr ⟨e, of_decide_eq_true ho.symm⟩)
    (fun x i hJ hle => ⟨hJ.1, down_done_leaf _ n i hJ.2.1 hle⟩)
    (fun x i j hJ h2 hc hlt => ⟨hJ.1, down_done _ n i j hJ.2.1 (by
      rcases hc with ⟨e, ho⟩ | ⟨e, _, ho⟩
      · exact .inl ⟨e, fun hh => by have := of_decide_eq_false (ho hh).symm; unfold keyOf; omega⟩
      · exact .inr ⟨e, of_decide_eq_true ho.symm⟩) (by have := of_decide_eq_false hlt.symm; unfold keyOf; omega)⟩)
  refine hdown.mono ?_
  rintro e w2 ⟨x, i, rfl, hq2, hF2, hl2⟩
  have hx : x.length = n + 1 := by omega
  obtain ⟨F, hF, hk⟩ := hq2.q.arr
  have hroom := hq2.q.room
  have hxm : x.getD n 0 ∈ x := getD_mem x n (by omega)
  obtain ⟨f, hf, _⟩ := hq2.q.slots _ hxm
  have hc := hF.cell (i := n) (by omega)
  rw [hk n (by omega)] at hc
  have hqv := hq2.q.qv.cell (i := 0) (by omega)
  rw [hx] at hqv
  have hpop := pop_big Q g (x.getD n 0) n cap _ w2 hqv (hq2.q.qv.frozen 0) hc (hF.frozen n) (hf.cell (i := 26) (by omega)) (hf.frozen 26) (by omega) (by omega) hq2.q.apart.1
    (fun e => hq2.q.apart.2.2 (e ▸ hxm)) (fun e => hq2.q.apart.2.1 (e ▸ hxm))
  have HP := Lib.hid hpop
  have HQ2 := Lib.hid hq2
  have HF2 := Lib.hid hF2
  have HX := Lib.hid hx
  clear hpop hq2 hF2 hx hqv hc hf hxm hroom hk hF hdown hJ0 l1 HQ1 HS hl2
  go_wp2_with fail
  refine HP.out.mono ?_
  rintro e w3 ⟨rfl, hw3⟩
  have HW := Lib.hid hw3
  clear hw3 HP
  go_wp2
  go_ret
  obtain ⟨p1, p2, p3⟩ := HQ2.out.q.popped HX.out HF2.out.1
  have ht := take_last x n _ HX.out HF2.out.1
  have hml : l.getD 0 0 ∈ l := getD_mem l 0 hn0
  refine ⟨l.getD 0 0, x.take n, by rw [← HF2.out.1]; rfl, rfl, ?_, ?_, ?_, ?_, ?_, ?_⟩
  · rw [HW.out, HF2.out.1]; exact p1
  · rw [ht]; exact HQ2.out.perm
  · intro k k0 kn
    have e : ∀ q, q < n → keyOf due (x.take n) q = keyOf due x q := fun q hq => by simp [keyOf, List.getD, hq]
    rw [e k kn, e _ (by omega)]
    exact HF2.out.2 k k0 kn
  · rw [HW.out, HF2.out.1]; exact p2
  · rw [HW.out, HF2.out.1]; exact p3
  · rw [HW.out, HF2.out.1]
    exact ((HQ2.out.kept.setCell (a := ⟨g, n, none⟩) (.inr (.inl rfl)) _).setCell (a := ⟨Q, 0, none⟩) (.inl rfl) _).setCell (a := ⟨l.getD 0 0, 26, none⟩) (.inr (.inr hml)) _
end Go.Proofs.Ybulkbyaq
