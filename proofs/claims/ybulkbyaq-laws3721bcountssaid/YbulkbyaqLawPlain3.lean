/-
  What LawS3721BCounts holds of memory behind its second loop, and behind countCalls.
-/
import Derived.Test.YbulkbyaqLawPlain2
import Derived.LaidEqlPtr
namespace Go.Proofs.Ybulkbyaq
open Go.RowKit

/-- The world in which countCalls is called. -/
abbrev callWorld (B B2 m : Nat) (wr : World) : World := wr.setCell ⟨B + 1, 1, none⟩ (.slice (some ⟨B2 + 1, 0, none⟩) m m)

theorem UIs.other {W : World} {C : UData} {s q t n o : Nat} {F : Nat → Value} (h : UIs W C s) (hq : W.rowIs q t n F) (h1 : t ≠ 62) (h2 : t ≠ 27) (u : Value) : UIs (W.setCell ⟨q, o, none⟩ u) C s := by
  obtain ⟨S, hS, _⟩ := h.row
  refine h.of_blocks (Below.heap_setCell W ⟨q, o, none⟩ u s (row_ne hS hq (Ne.symm h1))) (fun p hp => ?_)
  obtain ⟨f, hf, _⟩ := h.time p hp
  exact Below.heap_setCell W ⟨q, o, none⟩ u p.1 (row_ne hf hq (Ne.symm h2))

theorem toCIn {w wr : World} {B B2 g cap n m : Nat} {X : BArgs} {now : Int} {gs us ks : List Nat} {D : GData} {fr M : Nat → Int} {C : UData} {kv : Value} (ha : L2a w B B2 g cap n X now gs D fr us C wr) (hb : L2b B B2 n m m gs us ks M kv wr) (hul : us.length = m) (hm5 : m ≤ 512) (hn5 : n ≤ 512) (hnow : In64 now) (hmg : ∀ j, j < n → In64 (X.mg j)) :
    ∃ A0, CIn (callWorld B B2 m wr) (B + 1) g cap (B2 + 1) m D C now gs us A0 fr := by
  obtain ⟨S, hS, s0⟩ := hb.sls
  have h1 := ha.b1
  have hu := ha.h.uncounted (.slice (some ⟨B2 + 1, 0, none⟩) m m)
  refine ⟨S, ⟨⟨gs, hu.1, List.Perm.refl _⟩, hu.2, hS.setOther (row_ne hS ha.rr (by decide)) _, Kept.refl _ _, fun x hx hh => ?_⟩, hul, hm5, by rw [ha.len]; exact hn5, s0, fun s hs => ?_, fun x hx => ?_, fun s hs p hp => ?_, hnow.1, hnow.2⟩
  · have := ha.sa x hx hh
    omega
  · obtain ⟨u1, u2, _⟩ := ha.slots s hs
    exact ⟨u1.other ha.rr (by decide) (by decide) _, u2⟩
  · obtain ⟨j, hj, e⟩ := mem_at hx
    have hg := (ha.ok j (by rw [← ha.len]; exact hj)).gap
    rw [e] at hg
    rw [hg]
    exact hmg j (by rw [← ha.len]; exact hj)
  · exact ((ha.slots s hs).2.2 p hp).1

/-- What stands behind countCalls. -/
structure L3 (w : World) (B B2 g n m : Nat) (gs l ks : List Nat) (M : Nat → Int) (kv : Value) (wr : World) : Prop where
  bel : Below w.heap.size w wr
  perm : l.Perm gs
  nodup : gs.Nodup
  len : gs.length = n
  room : ks.length ≤ m
  rr : ∃ cap, wr.cell? ⟨B + 1, 0, none⟩ = some (.slice (some ⟨g, 0, none⟩) n cap)
  unc : wr.cell? ⟨B + 1, 1, none⟩ = some (.slice (some ⟨B2 + 1, 0, none⟩) ks.length m)
  sls : ∃ A, wr.rowIs (B2 + 1) 46 m A ∧ (∀ k, k < ks.length → A k = ptr (ks.getD k 0)) ∧ ∀ k, ks.length ≤ k → k < m → A k = .pointer none
  kept : wr.ownsRow (B2 + 2) 46 1 kv ks.length (ks.map ptr)
  qs : ∃ F, wr.rowIs (B + 2) 38 n F ∧ ∀ j, j < n → F j = ptr (gs.getD j 0)
  fm : ∃ F, wr.rowIs (B + 3) 27 (n * 3) F ∧ TimesAre F n (fun j => M (gs.getD j 0))
  heap : ∃ F cap, wr.rowIs g 38 cap F ∧ n ≤ cap ∧ ∀ j, j < n → F j = ptr (l.getD j 0)
  free : ∀ x, x ∈ gs → ∃ F, wr.rowIs x 45 12 F ∧ F 2 = .int .u64 (M x % 1000000000) ∧ F 3 = .int .i64 (M x / 1000000000) ∧ F 4 = .pointer none

theorem L3.below {w wr wr' : World} {B B2 g n m : Nat} {gs l ks : List Nat} {M : Nat → Int} {kv : Value} (h : L3 w B B2 g n m gs l ks M kv wr) (hb : Below wr.heap.size wr wr') : L3 w B B2 g n m gs l ks M kv wr' := by
  obtain ⟨cap, hrr⟩ := h.rr
  obtain ⟨A, hA, a0⟩ := h.sls
  obtain ⟨Q, hQ, q0⟩ := h.qs
  obtain ⟨F, hF, f0⟩ := h.fm
  obtain ⟨G, c2, hG, g0⟩ := h.heap
  refine ⟨h.bel.trans (hb.mono h.bel.size), h.perm, h.nodup, h.len, h.room, ⟨cap, cell_kept hb hrr⟩, cell_kept hb h.unc, ⟨A, below_rowIs hb hA, a0⟩, own_below h.kept hb, ⟨Q, below_rowIs hb hQ, q0⟩, ⟨F, below_rowIs hb hF, f0⟩, ⟨G, c2, below_rowIs hb hG, g0⟩, fun x hx => ?_⟩
  obtain ⟨P, hP, p0⟩ := h.free x hx
  exact ⟨P, below_rowIs hb hP, p0⟩

theorem toL3 {w wr W' : World} {B B2 g cap n m : Nat} {X : BArgs} {now : Int} {gs us l : List Nat} {D : GData} {fr : Nat → Int} {C : UData} {kv : Value} (ha : L2a w B B2 g cap n X now gs D fr us C wr) (hb : L2b B B2 n m m gs us (keptL C us) (foldZ D C now fr us) kv wr) (hul : us.length = m)
    (hh : HIs W' (B + 1) g cap D (foldZ D C now fr us) l) (hp : l.Perm gs) (hunc : W'.cell? ⟨B + 1, 1, none⟩ = some (.slice (some ⟨B2 + 1, 0, none⟩) (keptL C us).length m))
    (hA : ∃ A, W'.rowIs (B2 + 1) 46 m A ∧ (∀ k, k < (keptL C us).length → A k = .pointer (some ⟨(keptL C us).getD k 0, 0, none⟩)) ∧ ∀ k, (keptL C us).length ≤ k → k < m → A k = .pointer none)
    (hk : Kept (fun k => k = B + 1 ∨ k = g ∨ k = B2 + 1 ∨ k ∈ gs) (callWorld B B2 m wr) W') : L3 w B B2 g n m gs l (keptL C us) (foldZ D C now fr us) kv W' := by
  obtain ⟨F, hF, f0⟩ := ha.qs
  obtain ⟨T, hT, t0⟩ := hb.fm
  obtain ⟨G, hG, g0⟩ := ha.h.arr
  obtain ⟨R, hR, r0⟩ := hh.rv
  obtain ⟨A, hAr, a0⟩ := hh.arr
  obtain ⟨S, hS, _⟩ := hb.sls
  have h0 := ha.b0
  have h1 := ha.b1
  have hl := hp.length_eq
  have hn := ha.len
  have hmem : ∀ {x : Nat}, x ∈ gs → ∃ F, wr.rowIs x 45 12 F := by
    intro x hx
    obtain ⟨j, hj, e⟩ := mem_at hx
    obtain ⟨P, hP, _⟩ := (ha.h.groups j hj).row
    exact ⟨P, e ▸ hP⟩
  have hne : ∀ {b t q : Nat} {P : Nat → Value}, wr.rowIs b t q P → b ≠ B + 1 → b ≠ g → b ≠ B2 + 1 → t ≠ 45 → W'.rowIs b t q P := by
    intro b t q P hP n1 n2 n3 n4
    refine hk.rowIs (hP.setOther (by exact n1) _) (fun hx => ?_)
    rcases hx with hx | hx | hx | hx
    · exact n1 hx
    · exact n2 hx
    · exact n3 hx
    · obtain ⟨Q, hQ⟩ := hmem hx
      exact row_ne hP hQ n4 rfl
  have hlen : (keptL C us).length ≤ m := by
    have h1 : (keptL C us).length ≤ us.length := List.length_filter_le _ _
    omega
  refine ⟨?_, hp, ha.h.nodup, ha.len, hlen, ⟨cap, ?_⟩, hunc, hA, ?_, ⟨F, hne hF (by omega) (by have := ha.gg; omega) (by omega) (by decide), f0⟩, ⟨T, hne hT (by omega) (row_ne hT hG (by decide)) (by omega) (by decide), t0⟩, ⟨A, cap, hAr, ?_, fun j hj => a0 j (by omega)⟩, fun x hx => ?_⟩
  · refine (bset ha.bel (by omega) _).trans (hk.below (by simpa using ha.bel.size) (fun k hx => ?_))
    rcases hx with rfl | rfl | rfl | hx
    · omega
    · have := ha.gg
      omega
    · omega
    · exact ha.ge _ hx
  · rw [hR.cell (by omega), r0, hl, hn]
  · refine ⟨hb.kept.1, ?_⟩
    rcases hb.kept.2 with h | ⟨kg, kc, cur, e, hbg, hg, rest⟩
    · exact .inl h
    · refine .inr ⟨kg, kc, cur, e, hbg, ?_, rest⟩
      have hkeep := hk.block kg (by simpa using (row_of_cells hg).lt) (fun hx => ?_)
      · rw [hkeep]
        exact (Below.heap_setCell wr ⟨B + 1, 1, none⟩ _ kg (by dsimp only; omega)).trans hg
      · rcases hx with hx | hx | hx | hx
        · omega
        · exact row_ne (row_of_cells hg) hG (by decide) hx
        · omega
        · obtain ⟨Q, hQ⟩ := hmem hx
          exact row_ne (row_of_cells hg) hQ (by decide) rfl
  · have := hh.room
    omega
  · obtain ⟨j, hj, e⟩ := mem_at (hp.mem_iff.2 hx)
    have hg := hh.groups j hj
    rw [e] at hg
    obtain ⟨P, hP, c⟩ := hg.row
    exact ⟨P, hP, c.f0, c.f1, c.f2⟩

theorem own_form {W : World} {base e : Nat} {v : Value} {ks : List Nat} (h : W.ownsRow base e 1 v ks.length (ks.map ptr)) : ∃ ka kc, v = .slice ka ks.length kc ∧ ∀ j, j < ks.length → ∃ kg, ka = some ⟨kg, 0, none⟩ ∧ W.cell? ⟨kg, j, none⟩ = some (ptr (ks.getD j 0)) := by
  rcases h.2 with ⟨rfl, h0⟩ | ⟨kg, kc, cur, rfl, hb, hg, hn, hm, hs, ht⟩
  · exact ⟨none, 0, by rw [h0], fun j hj => by omega⟩
  · refine ⟨_, kc, rfl, fun j hj => ⟨kg, rfl, ?_⟩⟩
    have hr := row_of_cells hg
    rw [hr.cell (by omega)]
    have e1 : (cur.toList.take (ks.length * 1))[j]? = (ks.map ptr)[j]? := by rw [ht]
    rw [List.getElem?_take_of_lt (by omega), List.getElem?_map, Array.getElem?_toList] at e1
    rw [e1, List.getD_eq_getElem?_getD, List.getElem?_eq_getElem hj]
    rfl

theorem neq_slot (a : Addr) (w : World) : (binOp .neq 46 (.pointer (some a)) (.pointer (some a))).run Yba.prog w = .ok (.bool false) w := by
  obtain ⟨j, hj⟩ := Option.isSome_iff_exists.1 (show (Yba.prog.info? 62).isSome = true by kernel_rfl)
  exact Lib.run_neq_ptr_same w a Yba.underlying46 hj

theorem eql_group {W : World} {x y m n : Nat} {F G : Nat → Value} (hx : W.rowIs x 45 m F) (hy : W.rowIs y 45 n G) : (binOp .eql 38 (ptr x) (ptr y)).run Yba.prog W = .ok (.bool (x == y)) W := by
  obtain ⟨j, hj, hz⟩ := Option.map_eq_some_iff.1 (show (Yba.prog.info? 45).map (fun i => i.size) = some 12 by kernel_rfl)
  by_cases e : x = y
  · subst e
    rw [beq_self_eq_true]
    exact run_eql_ptr_same W ⟨x, 0, none⟩ Yba.underlying38 hj
  · rw [beq_eq_false_iff_ne.2 e]
    obtain ⟨c1, h1, _⟩ := hx
    obtain ⟨c2, h2, _⟩ := hy
    exact run_eql_ptr_other W Yba.underlying38 hj (by omega) (fun h => e (congrArg Addr.block h)) h1 h2

theorem count_step (l : List Nat) (x j : Nat) (h : j < l.length) : (l.take (j + 1)).count x = (l.take j).count x + if l.getD j 0 == x then 1 else 0 := by
  rw [take_step l j h, List.count_append]
  simp [List.count_cons]
theorem count_nodup : ∀ (gs : List Nat), gs.Nodup → ∀ x, x ∈ gs → gs.count x = 1
  | [], _, x, hx => absurd hx List.not_mem_nil
  | a :: gs, hn, x, hx => by
    obtain ⟨ha, hg⟩ := List.nodup_cons.1 hn
    rw [List.count_cons]
    by_cases e : a = x
    · subst e
      rw [List.count_eq_zero_of_not_mem ha]
      simp
    · rcases List.mem_cons.1 hx with h | h
      · exact absurd h.symm e
      · rw [count_nodup gs hg x h]
        simp [e]
theorem count_one {l gs : List Nat} (hp : l.Perm gs) (hn : gs.Nodup) {x : Nat} (hx : x ∈ gs) : l.count x = 1 := by
  rw [hp.count_eq]
  exact count_nodup gs hn x hx
end Go.Proofs.Ybulkbyaq
