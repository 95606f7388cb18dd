/-
  What LawS3721BCounts holds of memory in its second loop.
-/
import Derived.Test.YbulkbyaqLawPlain
namespace Go.Proofs.Ybulkbyaq
open Go.RowKit

/-- What the second loop does not write. -/
structure L2a (w : World) (B B2 g cap n : Nat) (X : BArgs) (now : Int) (gs : List Nat) (D : GData) (fr : Nat → Int) (us : List Nat) (C : UData) (wr : World) : Prop where
  bel : Below w.heap.size w wr
  b0 : w.heap.size ≤ B
  b1 : B + 4 ≤ B2
  size : B2 + 2 ≤ wr.heap.size
  len : gs.length = n
  box : wr.rowIs B 27 3 (fun k => if k = 0 then .int .u64 (now % 1000000000) else if k = 1 then .int .i64 (now / 1000000000) else .pointer none)
  rr : wr.rowIs (B + 1) 34 2 (fun k => if k = 0 then .slice (some ⟨g, 0, none⟩) n cap else .slice none 0 0)
  h : HIs wr (B + 1) g cap D fr gs
  qs : ∃ F, wr.rowIs (B + 2) 38 n F ∧ ∀ j, j < n → F j = ptr (gs.getD j 0)
  slots : ∀ s, s ∈ us → UIs wr C s ∧ C.grp s ∈ gs ∧ ∀ p, C.cal s = some p → In64 p.2 ∧ B2 ≤ p.1
  ok : ∀ j, j < n → GOk X D fr (gs.getD j 0) j
  sa : ∀ x, x ∈ gs → D.has x = true → D.sa x < B2
  gg : B + 4 ≤ g
  ge : ∀ x, x ∈ gs → w.heap.size ≤ x

/-- What it writes: freeM (its times M), all, sls (known up to k), kept (of the slots ks). -/
structure L2b (B B2 n m k : Nat) (gs us ks : List Nat) (M : Nat → Int) (kv : Value) (wr : World) : Prop where
  fm : ∃ F, wr.rowIs (B + 3) 27 (n * 3) F ∧ TimesAre F n (fun j => M (gs.getD j 0))
  all : ∃ F, wr.rowIs B2 46 m F
  sls : ∃ F, wr.rowIs (B2 + 1) 46 m F ∧ ∀ j, j < k → F j = ptr (us.getD j 0)
  kept : wr.ownsRow (B2 + 2) 46 1 kv ks.length (ks.map ptr)

theorem L2a.below {w wr wr' : World} {B B2 g cap n : Nat} {X : BArgs} {now : Int} {gs us : List Nat} {D : GData} {fr : Nat → Int} {C : UData} (h : L2a w B B2 g cap n X now gs D fr us C wr) (hb : Below wr.heap.size wr wr') : L2a w B B2 g cap n X now gs D fr us C wr' := by
  obtain ⟨F, hF, f0⟩ := h.qs
  exact ⟨h.bel.trans (hb.mono h.bel.size), h.b0, h.b1, Nat.le_trans h.size hb.size, h.len, below_rowIs hb h.box, below_rowIs hb h.rr, h.h.below hb, ⟨F, below_rowIs hb hF, f0⟩, fun s hs => ⟨(h.slots s hs).1.below hb, (h.slots s hs).2⟩, h.ok, h.sa, h.gg, h.ge⟩

theorem own_below {W W' : World} {base i e : Nat} {v : Value} {xs : List Value} (h : W.ownsRow base e 1 v i xs) (hb : Below W.heap.size W W') : W'.ownsRow base e 1 v i xs :=
  h.kept (row := none) ⟨hb.os, hb.tape, hb.output, hb.size, fun k hk _ => hb.block k hk⟩ (by cases hv : v.ownBlock <;> simp)

theorem L2b.below {wr wr' : World} {B B2 n m k : Nat} {gs us ks : List Nat} {M : Nat → Int} {kv : Value} (h : L2b B B2 n m k gs us ks M kv wr) (hb : Below wr.heap.size wr wr') : L2b B B2 n m k gs us ks M kv wr' := by
  obtain ⟨F, hF, f0⟩ := h.fm
  obtain ⟨A, hA⟩ := h.all
  obtain ⟨S, hS, s0⟩ := h.sls
  exact ⟨⟨F, below_rowIs hb hF, f0⟩, ⟨A, below_rowIs hb hA⟩, ⟨S, below_rowIs hb hS, s0⟩, own_below h.kept hb⟩

/-- The blocks that it writes. -/
def Writ (B B2 : Nat) (kv : Value) (b : Nat) : Prop := b = B + 3 ∨ b = B2 ∨ b = B2 + 1 ∨ kv.ownBlock = some b

theorem writ_ge {wr : World} {B B2 n m k : Nat} {gs us ks : List Nat} {M : Nat → Int} {kv : Value} (h : L2b B B2 n m k gs us ks M kv wr) (hb : B + 4 ≤ B2) {b : Nat} (hw : Writ B B2 kv b) : b = B + 3 ∨ B2 ≤ b := by
  rcases hw with rfl | rfl | rfl | hw
  · exact .inl rfl
  · exact .inr (Nat.le_refl _)
  · exact .inr (by omega)
  · exact .inr (by have := (h.kept.lt b hw).1; omega)

theorem writ_row {wr : World} {B B2 n m k : Nat} {gs us ks : List Nat} {M : Nat → Int} {kv : Value} (h : L2b B B2 n m k gs us ks M kv wr) {b : Nat} (hw : Writ B B2 kv b) : ∃ t l F, wr.rowIs b t l F ∧ (t = 27 ∨ t = 46) ∧ (t = 27 → b = B + 3) := by
  obtain ⟨F, hF, f0⟩ := h.fm
  obtain ⟨A, hA⟩ := h.all
  obtain ⟨S, hS, s0⟩ := h.sls
  rcases hw with rfl | rfl | rfl | hw
  · exact ⟨27, _, F, hF, .inl rfl, fun _ => rfl⟩
  · exact ⟨46, _, A, hA, .inr rfl, fun e => by cases e⟩
  · exact ⟨46, _, S, hS, .inr rfl, fun e => by cases e⟩
  · rcases h.kept.2 with ⟨rfl, _⟩ | ⟨g, cap, cur, rfl, hb, hg, hn, hm, hs, ht⟩
    · simp [Value.ownBlock] at hw
    · simp [Value.ownBlock] at hw
      subst hw
      exact ⟨46, _, _, row_of_cells hg, .inr rfl, fun e => by cases e⟩

theorem L2a.kept {w wr W : World} {B B2 g cap n m k : Nat} {X : BArgs} {now : Int} {gs us us' ks : List Nat} {D : GData} {fr M : Nat → Int} {C : UData} {kv : Value} (h : L2a w B B2 g cap n X now gs D fr us C wr) (hb : L2b B B2 n m k gs us' ks M kv wr) (hk : Kept (Writ B B2 kv) wr W) : L2a w B B2 g cap n X now gs D fr us C W := by
  obtain ⟨F, hF, f0⟩ := h.qs
  have h1 := h.b1
  have hne : ∀ {b t l : Nat} {G : Nat → Value}, wr.rowIs b t l G → t ≠ 27 → t ≠ 46 → ¬ Writ B B2 kv b := by
    intro b t l G hG t1 t2 hw
    obtain ⟨t', l', F', hF', ht, _⟩ := writ_row hb hw
    rcases ht with rfl | rfl
    · exact row_ne hG hF' t1 rfl
    · exact row_ne hG hF' t2 rfl
  have hsm : ∀ b, b < B + 3 → ¬ Writ B B2 kv b := fun b hlt hw => by have := writ_ge hb h1 hw; omega
  have hg : ∀ j, j < gs.length → GroupIs W D (gs.getD j 0) (fr (gs.getD j 0)) j := by
    intro j hj
    have gj := h.h.groups j hj
    obtain ⟨G, hG, _⟩ := gj.row
    refine gj.of_blocks (hk.block _ gj.lt (hne hG (by decide) (by decide))) (fun hh => ⟨hk.block _ (gj.head hh).lt_sa (fun hw => ?_), ?_⟩)
    · have h2 := h.sa _ (getD_mem gs j hj) hh
      obtain ⟨A, hA, _⟩ := (gj.head hh).arr
      obtain ⟨t', l', F', hF', ht, ht2⟩ := writ_row hb hw
      have h3 := writ_ge hb h1 hw
      rcases ht with rfl | rfl
      · exact row_ne hA hF' (by decide) rfl
      · rcases h3 with h3 | h3
        · obtain ⟨F2, hF2, _⟩ := hb.fm
          rw [h3] at hF'
          exact row_ne hF' hF2 (by decide) rfl
        · omega
    · obtain ⟨S, hS, _⟩ := (gj.head hh).slot
      exact hk.block _ hS.lt (hne hS (by decide) (by decide))
  obtain ⟨R, hR, r0⟩ := h.h.rv
  obtain ⟨A, hA, a0⟩ := h.h.arr
  refine ⟨h.bel.trans (hk.below h.bel.size (fun b hw => by have := writ_ge hb h1 hw; have := h.b0; omega)), h.b0, h.b1, Nat.le_trans h.size hk.size, h.len, hk.rowIs h.box (hsm _ (by omega)), hk.rowIs h.rr (hsm _ (by omega)), ⟨⟨R, hk.rowIs hR (hsm _ (by omega)), r0⟩, ⟨A, hk.rowIs hA (hne hA (by decide) (by decide)), a0⟩, h.h.room, hg, h.h.nodup⟩, ⟨F, hk.rowIs hF (hsm _ (by omega)), f0⟩, fun s hs => ?_, h.ok, h.sa, h.gg, h.ge⟩
  obtain ⟨u1, u2, u3⟩ := h.slots s hs
  obtain ⟨S, hS, _⟩ := u1.row
  refine ⟨u1.of_blocks (hk.block _ hS.lt (hne hS (by decide) (by decide))) (fun p hp => hk.block _ (u1.lt_time hp) (fun hw => ?_)), u2, u3⟩
  obtain ⟨f, hf, _⟩ := u1.time p hp
  obtain ⟨t', l', F', hF', ht, ht2⟩ := writ_row hb hw
  have h3 := (u3 p hp).2
  rcases ht with rfl | rfl
  · have := ht2 rfl
    omega
  · exact row_ne hf hF' (by decide) rfl

/-! ### One slot more -/
def addU (C : UData) (s x : Nat) (c : Option (Nat × Int)) : UData where
  grp y := if y = s then x else C.grp y
  cal y := if y = s then c else C.cal y

theorem foldZ_congr {D : GData} {C C' : UData} {now : Int} : ∀ (us : List Nat) (fr : Nat → Int), (∀ s, s ∈ us → C'.grp s = C.grp s ∧ C'.cal s = C.cal s) → foldZ D C' now fr us = foldZ D C now fr us
  | [], _, _ => rfl
  | s :: us, fr, h => by
    have hs := h s (List.mem_cons_self)
    have e : stepZ D C' now fr s = stepZ D C now fr s := by
      unfold stepZ
      rw [hs.1, hs.2]
    show foldZ D C' now (stepZ D C' now fr s) us = foldZ D C now (stepZ D C now fr s) us
    rw [e]
    exact foldZ_congr us _ (fun t ht => h t (List.mem_cons_of_mem _ ht))
theorem keptL_congr {C C' : UData} (us : List Nat) (h : ∀ s, s ∈ us → C'.cal s = C.cal s) : keptL C' us = keptL C us := by
  unfold keptL
  refine List.filter_congr (fun s hs => ?_)
  rw [h s hs]
theorem addU_old (C : UData) {s : Nat} (x : Nat) (c : Option (Nat × Int)) {us : List Nat} (hs : s ∉ us) : ∀ t, t ∈ us → (addU C s x c).grp t = C.grp t ∧ (addU C s x c).cal t = C.cal t := by
  intro t ht
  have : t ≠ s := fun e => hs (e ▸ ht)
  simp [addU, this]
theorem foldZ_add (D : GData) (C : UData) (now : Int) (fr : Nat → Int) {us : List Nat} {s : Nat} (x : Nat) (c : Option (Nat × Int)) (hs : s ∉ us) : foldZ D (addU C s x c) now fr (us ++ [s]) = stepZ D (addU C s x c) now (foldZ D C now fr us) s := by
  have e := foldZ_congr (D := D) (now := now) us fr (addU_old C x c hs)
  unfold foldZ at e ⊢
  rw [List.foldl_append, e]
  rfl
theorem keptL_add (C : UData) {us : List Nat} {s : Nat} (x : Nat) (c : Option (Nat × Int)) (hs : s ∉ us) : keptL (addU C s x c) (us ++ [s]) = if c.isNone then keptL C us ++ [s] else keptL C us := by
  have e := keptL_congr us (fun t ht => (addU_old C x c hs t ht).2)
  unfold keptL at e ⊢
  rw [List.filter_append, e]
  have h1 : (addU C s x c).cal s = c := by simp [addU]
  cases hc : c.isNone
  · rw [List.filter_cons_of_neg (by simp [h1, hc])]
    simp
  · rw [List.filter_cons_of_pos (by simp [h1, hc])]
    simp

theorem L2a.add {w wr : World} {B B2 g cap n : Nat} {X : BArgs} {now : Int} {gs us : List Nat} {D : GData} {fr : Nat → Int} {C : UData} (h : L2a w B B2 g cap n X now gs D fr us C wr) {s x : Nat} {c : Option (Nat × Int)} (hs : s ∉ us) (hx : x ∈ gs)
    (hrow : ∃ S, wr.rowIs s 62 39 S ∧ S 12 = ptr x ∧ S 38 = .pointer (c.map fun p => ⟨p.1, 0, none⟩)) (ht : ∀ p, c = some p → (∃ f, wr.rowIs p.1 27 3 f ∧ f 0 = .int .u64 (p.2 % 1000000000) ∧ f 1 = .int .i64 (p.2 / 1000000000) ∧ f 2 = .pointer none) ∧ In64 p.2 ∧ B2 ≤ p.1) :
    L2a w B B2 g cap n X now gs D fr (us ++ [s]) (addU C s x c) wr := by
  have hn : (addU C s x c).grp s = x ∧ (addU C s x c).cal s = c := by simp [addU]
  refine ⟨h.bel, h.b0, h.b1, h.size, h.len, h.box, h.rr, h.h, h.qs, fun t htm => ?_, h.ok, h.sa, h.gg, h.ge⟩
  rcases List.mem_append.1 htm with hm | hm
  · obtain ⟨e1, e2⟩ := addU_old C x c hs t hm
    obtain ⟨u1, u2, u3⟩ := h.slots t hm
    refine ⟨⟨?_, fun p hp => u1.time p (e2 ▸ hp)⟩, e1 ▸ u2, fun p hp => u3 p (e2 ▸ hp)⟩
    rw [e1, e2]
    exact u1.row
  · obtain rfl : t = s := by simpa using hm
    refine ⟨⟨?_, fun p hp => (ht p (hn.2.symm.trans hp)).1⟩, by rw [hn.1]; exact hx, fun p hp => (ht p (hn.2.symm.trans hp)).2⟩
    rw [hn.1, hn.2]
    exact hrow

/-! ### The writes -/
/-- freeM[gi] is written. -/
theorem L2b.setM {wr : World} {B B2 n m k : Nat} {gs us ks : List Nat} {M : Nat → Int} {kv : Value} (h : L2b B B2 n m k gs us ks M kv wr) (hb : B + 4 ≤ B2) (hl : gs.length = n) (hnd : gs.Nodup) {gi : Nat} (hgi : gi < n) (T : Int) :
    L2b B B2 n m k gs us ks (updZ M (gs.getD gi 0) T) kv (((wr.setCell ⟨B + 3, gi * 3, none⟩ (.int .u64 (T % 1000000000))).setCell ⟨B + 3, gi * 3 + 1, none⟩ (.int .i64 (T / 1000000000))).setCell ⟨B + 3, gi * 3 + 2, none⟩ (.pointer none)) ∧
    Kept (Writ B B2 kv) wr (((wr.setCell ⟨B + 3, gi * 3, none⟩ (.int .u64 (T % 1000000000))).setCell ⟨B + 3, gi * 3 + 1, none⟩ (.int .i64 (T / 1000000000))).setCell ⟨B + 3, gi * 3 + 2, none⟩ (.pointer none)) := by
  obtain ⟨F, hF, f0⟩ := h.fm
  obtain ⟨A, hA⟩ := h.all
  obtain ⟨S, hS, s0⟩ := h.sls
  refine ⟨⟨⟨_, ((hF.set (gi * 3) _).set (gi * 3 + 1) _).set (gi * 3 + 2) _, fun j hj => ?_⟩, ⟨A, ((hA.setOther (by dsimp only; omega) _).setOther (by dsimp only; omega) _).setOther (by dsimp only; omega) _⟩, ⟨S, ((hS.setOther (by dsimp only; omega) _).setOther (by dsimp only; omega) _).setOther (by dsimp only; omega) _, s0⟩, own_set_lt (own_set_lt (own_set_lt h.kept (by omega) _ _) (by omega) _ _) (by omega) _ _⟩,
    (((Kept.refl _ wr).setCell (a := ⟨B + 3, gi * 3, none⟩) (.inl rfl) _).setCell (a := ⟨B + 3, gi * 3 + 1, none⟩) (.inl rfl) _).setCell (a := ⟨B + 3, gi * 3 + 2, none⟩) (.inl rfl) _⟩
  by_cases e : j = gi
  · subst e
    simp [updZ_same]
  · have hne := getD_ne hnd (by omega : j < gs.length) (by omega : gi < gs.length) e
    simp only [updZ_other M T hne, if_neg (show ¬ j * 3 = gi * 3 + 2 by omega), if_neg (show ¬ j * 3 = gi * 3 + 1 by omega), if_neg (show ¬ j * 3 = gi * 3 by omega), if_neg (show ¬ j * 3 + 1 = gi * 3 + 2 by omega), if_neg (show ¬ j * 3 + 1 = gi * 3 + 1 by omega), if_neg (show ¬ j * 3 + 1 = gi * 3 by omega), if_neg (show ¬ j * 3 + 2 = gi * 3 + 2 by omega), if_neg (show ¬ j * 3 + 2 = gi * 3 + 1 by omega), if_neg (show ¬ j * 3 + 2 = gi * 3 by omega)]
    exact f0 j hj

/-- kept grows. -/
theorem L2b.grow {wr w5 : World} {B B2 n m k : Nat} {gs us ks : List Nat} {M : Nat → Int} {kv kv' : Value} (h : L2b B B2 n m k gs us ks M kv wr) (hb : B + 4 ≤ B2) (o : Obj) {s : Nat} (hown : w5.ownsRow (B2 + 2) 46 1 kv' (ks.length + 1) (ks.map ptr ++ [ptr s])) (hg : (wr.alloc o).grownBy w5 kv.ownBlock) :
    L2b B B2 n m k gs us (ks ++ [s]) M kv' w5 ∧ Kept (Writ B B2 kv) wr w5 := by
  obtain ⟨F, hF, f0⟩ := h.fm
  obtain ⟨A, hA⟩ := h.all
  obtain ⟨S, hS, s0⟩ := h.sls
  have ne : ∀ b, b < B2 + 2 → some b ≠ kv.ownBlock := fun b hlt e => by have := (h.kept.lt b e.symm).1; omega
  refine ⟨⟨⟨F, grown_row hg (hF.alloc o) (ne _ (by omega)), f0⟩, ⟨A, grown_row hg (hA.alloc o) (ne _ (by omega))⟩, ⟨S, grown_row hg (hS.alloc o) (ne _ (by omega)), s0⟩, by simpa using hown⟩, ((Kept.refl _ wr).alloc o).grown hg (fun b hw => .inr (.inr (.inr hw)))⟩

/-- all[k], sls[k] are written. -/
theorem L2b.put {wr : World} {B B2 n m k : Nat} {gs us ks : List Nat} {M : Nat → Int} {kv : Value} (h : L2b B B2 n m k gs us ks M kv wr) (hb : B + 4 ≤ B2) {s : Nat} :
    L2b B B2 n m (k + 1) gs (us ++ [s]) ks M kv ((wr.setCell ⟨B2, k, none⟩ (ptr s)).setCell ⟨B2 + 1, k, none⟩ (ptr s)) ∨ us.length ≠ k := by
  by_cases hl : us.length = k
  · obtain ⟨F, hF, f0⟩ := h.fm
    obtain ⟨A, hA⟩ := h.all
    obtain ⟨S, hS, s0⟩ := h.sls
    refine .inl ⟨⟨F, (hF.setOther (by dsimp only; omega) _).setOther (by dsimp only; omega) _, f0⟩, ⟨_, (hA.set k _).setOther (by dsimp only; omega) _⟩, ⟨_, (hS.setOther (by dsimp only; omega) _).set k _, fun j hj => ?_⟩, own_set_lt (own_set_lt h.kept (by omega) _ _) (by omega) _ _⟩
    by_cases e : j = k
    · subst e
      rw [if_pos rfl]
      subst hl
      rw [getD_snoc_eq]
    · rw [if_neg e, getD_snoc_lt us s j (by omega)]
      exact s0 j (by omega)
  · exact .inr hl
theorem kept_put {wr : World} {B B2 k : Nat} {kv : Value} {s : Nat} : Kept (Writ B B2 kv) wr ((wr.setCell ⟨B2, k, none⟩ (ptr s)).setCell ⟨B2 + 1, k, none⟩ (ptr s)) :=
  ((Kept.refl _ wr).setCell (a := ⟨B2, k, none⟩) (.inr (.inl rfl)) _).setCell (a := ⟨B2 + 1, k, none⟩) (.inr (.inr (.inl rfl))) _

/-- The second loop's round, its slot and its copies made. -/
structure L2m (wr : World) (s ub gb x : Nat) (X : BArgs) (k gi : Nat) (wx : World) : Prop where
  bel : Below wr.heap.size wr wx
  ge : wr.heap.size ≤ s
  srow : ∃ S, wx.rowIs s 62 39 S ∧ S 12 = ptr x ∧ S 38 = .pointer none
  u1 : wx.cell? ⟨ub, 1, none⟩ = some (.bool (X.uc k))
  u2 : wx.cell? ⟨ub, 2, none⟩ = some (.int .i64 (X.ua k))
  g2 : wx.cell? ⟨gb, 2, none⟩ = some (.int .i64 (X.pa gi))
  g3 : wx.cell? ⟨gb, 3, none⟩ = some (.int .i64 (X.du gi))
  g4 : wx.cell? ⟨gb, 4, none⟩ = some (.bool (X.hs gi))
  gr : ∃ G, wx.rowIs gb 37 5 G ∧ G 2 = .int .i64 (X.pa gi) ∧ G 3 = .int .i64 (X.du gi) ∧ G 4 = .bool (X.hs gi)

theorem mid2 (wr : World) (x : Nat) (X : BArgs) (k gi : Nat) {c1 : Array Value} (hc : c1.size = 39) (h12 : c1[12]? = some (ptr x)) (h38 : c1[38]? = some (.pointer none)) :
    L2m wr (wr.heap.size + 1) wr.heap.size (wr.heap.size + 1 + 1) x X k gi (((wr.alloc (.cells #[.int .u8 (X.ug k : Nat), .bool (X.uc k), .int .i64 (X.ua k)] 64)).alloc (.cells c1 62)).alloc (.cells #[.int .i64 (X.mg gi), .int .i64 (X.fz gi), .int .i64 (X.pa gi), .int .i64 (X.du gi), .bool (X.hs gi)] 37)) := by
  have rs := row_of_cells (heap_alloc_new (wr.alloc (.cells #[.int .u8 (X.ug k : Nat), .bool (X.uc k), .int .i64 (X.ua k)] 64)) (.cells c1 62))
  rw [hc] at rs
  simp only [World.size_alloc] at rs
  have n1 : wr.heap.size < wr.heap.size + 1 := by omega
  have n2 : wr.heap.size < wr.heap.size + 1 + 1 := by omega
  have rg := row_of_cells (heap_alloc_new ((wr.alloc (.cells #[.int .u8 (X.ug k : Nat), .bool (X.uc k), .int .i64 (X.ua k)] 64)).alloc (.cells c1 62)) (.cells #[.int .i64 (X.mg gi), .int .i64 (X.fz gi), .int .i64 (X.pa gi), .int .i64 (X.du gi), .bool (X.hs gi)] 37))
  simp only [World.size_alloc] at rg
  refine ⟨bal (bal (bal (Below.refl _ wr) _) _) _, by omega, ⟨_, rs.alloc _, by rw [h12]; rfl, by rw [h38]; rfl⟩, ?_, ?_, ?_, ?_, ?_, ⟨_, rg, rfl, rfl, rfl⟩⟩
  · simp [go_sem, World.cell?_alloc_past]
  · simp [go_sem, World.cell?_alloc_past]
  · simp [go_sem]
  · simp [go_sem]
  · simp [go_sem]

/-! ### The round's ends -/
theorem add_cal (C : UData) (s x : Nat) (c : Option (Nat × Int)) : (addU C s x c).grp s = x ∧ (addU C s x c).cal s = c := by simp [addU]

theorem close_called {w w4 w2 : World} {B B2 g cap n m k gi s x tb : Nat} {X : BArgs} {now T1 T : Int} {gs us : List Nat} {D : GData} {fr M : Nat → Int} {C : UData} {kv : Value} {S4 : Nat → Value}
    (ha : L2a w B B2 g cap n X now gs D fr us C w4) (hb : L2b B B2 n m k gs us (keptL C us) M kv w4) (hr : w4.rowIs s 62 39 S4) (h12 : S4 12 = ptr x) (h38 : S4 38 = ptr tb)
    (ht : w4.rowIs tb 27 3 (fun i => if i = 0 then .int .u64 (X.ua k % 1000000000) else if i = 1 then .int .i64 (X.ua k / 1000000000) else .pointer none)) (htb : B2 ≤ tb)
    (hs : s ∉ us) (hM : foldZ D C now fr us = M) (hx : gs.getD gi 0 = x) (hxm : x ∈ gs) (hgn : gi < n) (hua : In64 (X.ua k)) (hT1 : X.ua k + X.mg gi = T1) (hT : laterZ (M x) T1 = T) (hB : Below w4.heap.size w4 w2) :
    L2a w B B2 g cap n X now gs D fr (us ++ [s]) (addU C s x (some (tb, X.ua k))) (((w2.setCell ⟨B + 3, gi * 3, none⟩ (.int .u64 (T % 1000000000))).setCell ⟨B + 3, gi * 3 + 1, none⟩ (.int .i64 (T / 1000000000))).setCell ⟨B + 3, gi * 3 + 2, none⟩ (.pointer none)) ∧
    L2b B B2 n m k gs us (keptL (addU C s x (some (tb, X.ua k))) (us ++ [s])) (foldZ D (addU C s x (some (tb, X.ua k))) now fr (us ++ [s])) kv (((w2.setCell ⟨B + 3, gi * 3, none⟩ (.int .u64 (T % 1000000000))).setCell ⟨B + 3, gi * 3 + 1, none⟩ (.int .i64 (T / 1000000000))).setCell ⟨B + 3, gi * 3 + 2, none⟩ (.pointer none)) := by
  have ha2 := (ha.below hB).add (c := some (tb, X.ua k)) hs hxm ⟨S4, below_rowIs hB hr, h12, h38⟩ (fun p hp => by
    obtain rfl : (tb, X.ua k) = p := by simpa using hp
    exact ⟨⟨_, below_rowIs hB ht, by simp, by simp, by simp⟩, hua, htb⟩)
  have hb2 := hb.below hB
  obtain ⟨hb3, hk⟩ := hb2.setM ha.b1 ha.len ha.h.nodup hgn T
  refine ⟨ha2.kept hb2 hk, ?_⟩
  have e1 : foldZ D (addU C s x (some (tb, X.ua k))) now fr (us ++ [s]) = updZ M x T := by
    rw [foldZ_add D C now fr x _ hs, hM]
    unfold stepZ
    rw [(add_cal C s x _).2, (add_cal C s x _).1]
    simp only
    have hg := (ha.ok gi hgn).gap
    rw [hx] at hg
    rw [hg, hT1, hT]
  rw [e1, keptL_add C x _ hs, ← hx]
  exact hb3

theorem close_none {w W : World} {B B2 g cap n m k s x : Nat} {X : BArgs} {now : Int} {gs us : List Nat} {D : GData} {fr M : Nat → Int} {C : UData} {kv : Value}
    (ha : L2a w B B2 g cap n X now gs D fr us C W) (hb : L2b B B2 n m k gs us (keptL C us ++ [s]) M kv W) (hr : ∃ S, W.rowIs s 62 39 S ∧ S 12 = ptr x ∧ S 38 = .pointer none)
    (hs : s ∉ us) (hM : foldZ D C now fr us = M) (hxm : x ∈ gs) (hst : ¬ (D.has x = true ∧ ¬ now < nextZ D x (M x))) :
    L2a w B B2 g cap n X now gs D fr (us ++ [s]) (addU C s x none) W ∧ L2b B B2 n m k gs us (keptL (addU C s x none) (us ++ [s])) (foldZ D (addU C s x none) now fr (us ++ [s])) kv W := by
  refine ⟨ha.add (c := none) hs hxm hr (fun p hp => by cases hp), ?_⟩
  have e1 : foldZ D (addU C s x none) now fr (us ++ [s]) = M := by
    rw [foldZ_add D C now fr x _ hs, hM]
    unfold stepZ
    rw [(add_cal C s x _).2, (add_cal C s x _).1]
    simp only
    rw [if_neg hst]
  rw [e1, keptL_add C x _ hs]
  exact hb

theorem close_free {w W : World} {B B2 g cap n m k gi s x : Nat} {X : BArgs} {now T : Int} {gs us : List Nat} {D : GData} {fr M : Nat → Int} {C : UData} {kv : Value}
    (ha : L2a w B B2 g cap n X now gs D fr us C W) (hb : L2b B B2 n m k gs us (keptL C us ++ [s]) M kv W) (hr : ∃ S, W.rowIs s 62 39 S ∧ S 12 = ptr x ∧ S 38 = .pointer none)
    (hs : s ∉ us) (hM : foldZ D C now fr us = M) (hx : gs.getD gi 0 = x) (hxm : x ∈ gs) (hgn : gi < n) (hst : D.has x = true ∧ ¬ now < nextZ D x (M x)) (hT : now + X.mg gi = T) :
    L2a w B B2 g cap n X now gs D fr (us ++ [s]) (addU C s x none) (((W.setCell ⟨B + 3, gi * 3, none⟩ (.int .u64 (T % 1000000000))).setCell ⟨B + 3, gi * 3 + 1, none⟩ (.int .i64 (T / 1000000000))).setCell ⟨B + 3, gi * 3 + 2, none⟩ (.pointer none)) ∧
    L2b B B2 n m k gs us (keptL (addU C s x none) (us ++ [s])) (foldZ D (addU C s x none) now fr (us ++ [s])) kv (((W.setCell ⟨B + 3, gi * 3, none⟩ (.int .u64 (T % 1000000000))).setCell ⟨B + 3, gi * 3 + 1, none⟩ (.int .i64 (T / 1000000000))).setCell ⟨B + 3, gi * 3 + 2, none⟩ (.pointer none)) := by
  have ha2 := ha.add (c := none) hs hxm hr (fun p hp => by cases hp)
  obtain ⟨hb3, hk⟩ := hb.setM ha.b1 ha.len ha.h.nodup hgn T
  refine ⟨ha2.kept hb hk, ?_⟩
  have e1 : foldZ D (addU C s x none) now fr (us ++ [s]) = updZ M x T := by
    rw [foldZ_add D C now fr x _ hs, hM]
    unfold stepZ
    rw [(add_cal C s x _).2, (add_cal C s x _).1]
    simp only
    have hg := (ha.ok gi hgn).gap
    rw [hx] at hg
    rw [if_pos hst, hg, hT]
  rw [e1, keptL_add C x _ hs, ← hx]
  exact hb3

/-- kept has grown. -/
theorem close_grow {w wr w5 : World} {B B2 g cap n m k s x : Nat} {X : BArgs} {now : Int} {gs us ks : List Nat} {D : GData} {fr M : Nat → Int} {C : UData} {kv kv' : Value} (o : Obj)
    (ha : L2a w B B2 g cap n X now gs D fr us C wr) (hb : L2b B B2 n m k gs us ks M kv wr) (hr : ∃ S, wr.rowIs s 62 39 S ∧ S 12 = ptr x ∧ S 38 = .pointer none)
    (hown : w5.ownsRow (B2 + 2) 46 1 kv' (ks.length + 1) (ks.map ptr ++ [ptr s])) (hg : (wr.alloc o).grownBy w5 kv.ownBlock) :
    L2a w B B2 g cap n X now gs D fr us C w5 ∧ L2b B B2 n m k gs us (ks ++ [s]) M kv' w5 ∧ (∃ S, w5.rowIs s 62 39 S ∧ S 12 = ptr x ∧ S 38 = .pointer none) ∧ ∀ {b t l : Nat} {F : Nat → Value}, wr.rowIs b t l F → t ≠ 27 → t ≠ 46 → w5.rowIs b t l F := by
  obtain ⟨h1, hk⟩ := hb.grow ha.b1 o hown hg
  have hne : ∀ {b t l : Nat} {F : Nat → Value}, wr.rowIs b t l F → t ≠ 27 → t ≠ 46 → w5.rowIs b t l F := by
    intro b t l F hF t1 t2
    refine hk.rowIs hF (fun hw => ?_)
    obtain ⟨t', l', F', hF', ht, _⟩ := writ_row hb hw
    rcases ht with rfl | rfl
    · exact row_ne hF hF' t1 rfl
    · exact row_ne hF hF' t2 rfl
  obtain ⟨S, hS, s0⟩ := hr
  exact ⟨ha.kept hb hk, h1, ⟨S, hne hS (by decide) (by decide), s0⟩, hne⟩

/-- From the first loop to the second. -/
theorem L1.toHeap {w wr : World} {B n : Nat} {X : BArgs} {now : Int} {gs : List Nat} {D : GData} {fr : Nat → Int} {v : Value} (h : L1 w B n X now n gs D fr v wr) (hn : 0 < n) :
    ∃ g cap, v = .slice (some ⟨g, 0, none⟩) n cap ∧ HIs wr (B + 1) g cap D fr gs ∧ B + 4 ≤ g ∧ ∀ x, x ∈ gs → D.has x = true → D.sa x < wr.heap.size := by
  rcases h.own.2 with ⟨_, h0⟩ | ⟨g, cap, cur, rfl, hb, hg, hnc, hm, hs, ht⟩
  · omega
  · have hl := h.len
    have hr := row_of_cells hg
    rw [hs, Nat.mul_one] at hr
    refine ⟨g, cap, rfl, ⟨⟨_, h.rr, by simp [hl]⟩, ⟨_, hr, fun k hk => ?_⟩, by omega, fun k hk => (h.groups k (by omega)).1, h.nodup⟩, hb, fun x hx hh => ?_⟩
    · have e : (cur.toList.take (n * 1))[k]? = (gs.map ptr)[k]? := by rw [ht]
      rw [List.getElem?_take_of_lt (by omega), List.getElem?_map, Array.getElem?_toList] at e
      rw [e, List.getD_eq_getElem?_getD, List.getElem?_eq_getElem hk]
      rfl
    · obtain ⟨j, hj, e⟩ := mem_at hx
      have hg := (h.groups j (by omega)).1
      rw [e] at hg
      exact (hg.head hh).lt_sa
end Go.Proofs.Ybulkbyaq
