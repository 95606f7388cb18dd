/-
  What LawS3721BCounts holds of memory, round by round.
-/
import Derived.Test.YbulkbyaqCountCalls
namespace Go.Proofs.Ybulkbyaq
open Go.RowKit

abbrev ptr (x : Nat) : Value := .pointer (some ⟨x, 0, none⟩)
def In64 (z : Int) : Prop := -9223372036854775808 ≤ z ∧ z ≤ 9223372036854775807

/-- What came in. -/
structure BArgs where
  mg : Nat → Int
  fz : Nat → Int
  pa : Nat → Int
  du : Nat → Int
  hs : Nat → Bool
  ug : Nat → Nat
  uc : Nat → Bool
  ua : Nat → Int

/-- The groups' elements lie at a. -/
def GrpAt (w : World) (a : Option Addr) (n : Nat) (X : BArgs) : Prop :=
  ∀ i, i < n → ∃ b off, a = some ⟨b, off, none⟩ ∧ w.cell? ⟨b, off + i * 5, none⟩ = some (.int .i64 (X.mg i)) ∧ w.cell? ⟨b, off + i * 5 + 1, none⟩ = some (.int .i64 (X.fz i)) ∧ w.cell? ⟨b, off + i * 5 + 2, none⟩ = some (.int .i64 (X.pa i)) ∧
    w.cell? ⟨b, off + i * 5 + 3, none⟩ = some (.int .i64 (X.du i)) ∧ w.cell? ⟨b, off + i * 5 + 4, none⟩ = some (.bool (X.hs i)) ∧ In64 (X.mg i) ∧ In64 (X.fz i) ∧ In64 (X.pa i) ∧ In64 (X.du i)
/-- The slots' elements lie at a. -/
def UncAt (w : World) (a : Option Addr) (m : Nat) (X : BArgs) : Prop :=
  ∀ i, i < m → ∃ b off, a = some ⟨b, off, none⟩ ∧ w.cell? ⟨b, off + i * 3, none⟩ = some (.int .u8 (X.ug i : Nat)) ∧ w.cell? ⟨b, off + i * 3 + 1, none⟩ = some (.bool (X.uc i)) ∧ w.cell? ⟨b, off + i * 3 + 2, none⟩ = some (.int .i64 (X.ua i)) ∧ X.ug i < 256 ∧ In64 (X.ua i)

theorem btime1 (n : Int) (w : World) (h : In64 n) :
    Calls Yba.prog 6 #[.int .i64 n] w fun e w' => e = .returned (.agg #[.int .u64 (n % 1000000000), .int .i64 (n / 1000000000), .pointer none]) ∧ Below w.heap.size w w' := btime_any n w h.1 h.2
theorem blater1 (M N T : Int) (hT : laterZ M N = T) (w : World) :
    Calls Yba.prog 8 #[.agg #[.int .u64 (M % 1000000000), .int .i64 (M / 1000000000), .pointer none], .agg #[.int .u64 (N % 1000000000), .int .i64 (N / 1000000000), .pointer none]] w fun e w' => e = .returned (.agg #[.int .u64 (T % 1000000000), .int .i64 (T / 1000000000), .pointer none]) ∧ Below w.heap.size w w' := by
  subst hT
  exact blater_any M N w

theorem row_of_cells {W : World} {b t : Nat} {c : Array Value} (h : W.heap[b]? = some (.cells c t (0, 0))) : W.rowIs b t c.size (fun k => c[k]?.getD undef) := by
  refine ⟨c, h, rfl, fun i hi => ?_⟩
  show c[i]? = some (c[i]?.getD undef)
  rw [Array.getElem?_eq_getElem hi]
  rfl

/-! ### make of times -/
theorem info27 : (Yba.prog.info? 27).map (fun i => (i.zero, i.size, i.bytes)) = some (some (.agg #[.int .u64 0, .int .i64 0, .pointer none]), 3, 24) := by kernel_rfl
theorem info38 : (Yba.prog.info? 38).map (fun i => (i.zero, i.size, i.bytes)) = some (some (.pointer none), 1, 8) := by kernel_rfl
theorem run_make_times (n : Nat) (hn : n ≤ 512) (w : World) :
    (Instr.makeSlice 35 (.int .i64 (n : Int)) (.int .i64 (n : Int))).run Yba.prog w = .ok (.slice (some ⟨w.heap.size, 0, none⟩) n n) (w.alloc (.cells (madeCells #[.int .u64 0, .int .i64 0, .pointer none] (n * 3)) 27)) := by
  obtain ⟨i, hi, hzz⟩ := Option.map_eq_some_iff.1 info27
  simp only [Prod.mk.injEq] at hzz
  obtain ⟨hz, hs, hb⟩ := hzz
  have hr := run_make (P := Yba.prog) w 35 27 i _ Yba.underlying35 hi hz .i64 .i64 n n (by omega) (Int.le_refl _) (by rw [hb]; omega) (by omega)
  simp only [Int.toNat_natCast, hs] at hr
  exact hr
theorem rowIs_times (w : World) (n : Nat) : ∃ F, (w.alloc (.cells (madeCells #[.int .u64 0, .int .i64 0, .pointer none] (n * 3)) 27)).rowIs w.heap.size 27 (n * 3) F := by
  have h := row_of_cells (heap_alloc_new w (.cells (madeCells #[.int .u64 0, .int .i64 0, .pointer none] (n * 3)) 27))
  rw [size_madeCells] at h
  exact ⟨_, h⟩

/-! ### The first loop -/
/-- The cells of a row of times. -/
def TimesAre (F : Nat → Value) (i : Nat) (N : Nat → Int) : Prop := ∀ j, j < i → F (j * 3) = .int .u64 (N j % 1000000000) ∧ F (j * 3 + 1) = .int .i64 (N j / 1000000000) ∧ F (j * 3 + 2) = .pointer none

/-- What is known of the groups made so far. -/
structure GOk (X : BArgs) (D : GData) (fr : Nat → Int) (x j : Nat) : Prop where
  has : D.has x = X.hs j
  due : D.due x = X.du j
  gap : D.gap x = X.mg j
  pau : D.pau x = X.pa j
  fr : fr x = X.fz j

structure L1 (w : World) (B n : Nat) (X : BArgs) (now : Int) (i : Nat) (gs : List Nat) (D : GData) (fr : Nat → Int) (v : Value) (wr : World) : Prop where
  bel : Below w.heap.size w wr
  base : w.heap.size ≤ B
  size : B + 4 ≤ wr.heap.size
  len : gs.length = i
  box : wr.rowIs B 27 3 (fun k => if k = 0 then .int .u64 (now % 1000000000) else if k = 1 then .int .i64 (now / 1000000000) else .pointer none)
  rr : wr.rowIs (B + 1) 34 2 (fun k => if k = 0 then v else .slice none 0 0)
  own : wr.ownsRow (B + 4) 38 1 v i (gs.map ptr)
  qs : ∃ F, wr.rowIs (B + 2) 38 n F ∧ ∀ j, j < i → F j = ptr (gs.getD j 0)
  fm : ∃ F, wr.rowIs (B + 3) 27 (n * 3) F ∧ TimesAre F i (fun j => fr (gs.getD j 0))
  groups : ∀ j, j < i → GroupIs wr D (gs.getD j 0) (fr (gs.getD j 0)) j ∧ GOk X D fr (gs.getD j 0) j
  nodup : gs.Nodup
  ge : ∀ x, x ∈ gs → w.heap.size ≤ x

theorem GroupIs.congr {W : World} {D D' : GData} {x : Nat} {f i : Int} (h : GroupIs W D x f i) (h1 : D'.has x = D.has x) (h2 : D'.sa x = D.sa x) (h3 : D'.sb x = D.sb x) (h4 : D'.due x = D.due x) (h5 : D'.gap x = D.gap x) (h6 : D'.pau x = D.pau x) : GroupIs W D' x f i := by
  obtain ⟨F, hF, c⟩ := h.row
  refine ⟨⟨F, hF, ⟨by rw [h1, h2]; exact c.slots, by rw [h5]; exact c.gap, c.f0, c.f1, c.f2, by rw [h6]; exact c.p0, by rw [h6]; exact c.p1, c.p2, c.br, c.ix⟩⟩, fun hh => ?_⟩
  have hd := h.head (h1 ▸ hh)
  exact ⟨by rw [h2, h3]; exact hd.arr, by rw [h3, h4]; exact hd.slot⟩

theorem L1.below {w wr wr' : World} {B n i : Nat} {X : BArgs} {now : Int} {gs : List Nat} {D : GData} {fr : Nat → Int} {v : Value} (h : L1 w B n X now i gs D fr v wr) (hb : Below wr.heap.size wr wr') : L1 w B n X now i gs D fr v wr' := by
  obtain ⟨F, hF, f0⟩ := h.qs
  obtain ⟨G, hG, g0⟩ := h.fm
  have hs := hb.size
  refine ⟨h.bel.trans (hb.mono (by have := h.bel.size; omega)), h.base, by have := h.size; omega, h.len, below_rowIs hb h.box, below_rowIs hb h.rr, ?_, ⟨F, below_rowIs hb hF, f0⟩, ⟨G, below_rowIs hb hG, g0⟩, fun j hj => ⟨(h.groups j hj).1.below hb, (h.groups j hj).2⟩, h.nodup, h.ge⟩
  exact h.own.kept (row := none) ⟨hb.os, hb.tape, hb.output, hb.size, fun k hk _ => hb.block k hk⟩ (by cases hv : v.ownBlock <;> simp)

/-- The data with one group more. -/
def addG (D : GData) (q sa sb : Nat) (X : BArgs) (i : Nat) : GData where
  has y := if y = q then X.hs i else D.has y
  sa y := if y = q then sa else D.sa y
  sb y := if y = q then sb else D.sb y
  due y := if y = q then X.du i else D.due y
  gap y := if y = q then X.mg i else D.gap y
  pau y := if y = q then X.pa i else D.pau y

/-- Between the group's making and its entry: it stands, and the first loop's facts too. -/
structure L1mid (w : World) (B n : Nat) (X : BArgs) (now : Int) (i : Nat) (gs : List Nat) (D : GData) (fr : Nat → Int) (v : Value) (q : Nat) (D' : GData) (wr : World) : Prop where
  l1 : L1 w B n X now i gs D fr v wr
  new : q ∉ gs
  newge : w.heap.size ≤ q
  old : ∀ x, x ∈ gs → D'.has x = D.has x ∧ D'.sa x = D.sa x ∧ D'.sb x = D.sb x ∧ D'.due x = D.due x ∧ D'.gap x = D.gap x ∧ D'.pau x = D.pau x
  grp : GroupIs wr D' q (X.fz i) i
  ok : D'.has q = X.hs i ∧ D'.due q = X.du i ∧ D'.gap q = X.mg i ∧ D'.pau q = X.pa i

theorem getD_snoc_lt (gs : List Nat) (q j : Nat) (h : j < gs.length) : (gs ++ [q]).getD j 0 = gs.getD j 0 := by
  rw [List.getD_eq_getElem?_getD, List.getD_eq_getElem?_getD, List.getElem?_append_left h]
theorem getD_snoc_eq (gs : List Nat) (q : Nat) : (gs ++ [q]).getD gs.length 0 = q := by
  rw [List.getD_eq_getElem?_getD, List.getElem?_append_right (Nat.le_refl _)]
  simp

theorem kept_group {X : Nat → Prop} {W W' : World} {D : GData} {x : Nat} {f i : Int} (h : GroupIs W D x f i) (hk : Kept X W W') (hX : ∀ k, X k → ∃ t n F, W.rowIs k t n F ∧ t ≠ 45 ∧ t ≠ 46 ∧ t ≠ 62) : GroupIs W' D x f i := by
  obtain ⟨F, hF, _⟩ := h.row
  refine h.of_blocks (hk.block x h.lt fun hx => ?_) (fun hh => ?_)
  · obtain ⟨t, n, G, hG, h1, _⟩ := hX x hx
    exact row_ne hG hF h1 rfl
  · obtain ⟨A, hA, _⟩ := (h.head hh).arr
    obtain ⟨S, hS, _⟩ := (h.head hh).slot
    refine ⟨hk.block _ hA.lt fun hx => ?_, hk.block _ hS.lt fun hx => ?_⟩
    · obtain ⟨t, n, G, hG, _, h1, _⟩ := hX _ hx
      exact row_ne hG hA h1 rfl
    · obtain ⟨t, n, G, hG, _, _, h1⟩ := hX _ hx
      exact row_ne hG hS h1 rfl

/-- The round's end. -/
theorem L1mid.step {w wr W : World} {B n i : Nat} {X : BArgs} {now : Int} {gs : List Nat} {D D' : GData} {fr : Nat → Int} {v v' : Value} {q : Nat} (h : L1mid w B n X now i gs D fr v q D' wr)
    (hk : Kept (fun k => k = B + 1 ∨ k = B + 2 ∨ k = B + 3 ∨ v.ownBlock = some k) wr W)
    (hrr : W.rowIs (B + 1) 34 2 (fun k => if k = 0 then v' else .slice none 0 0))
    (hown : W.ownsRow (B + 4) 38 1 v' (i + 1) (gs.map ptr ++ [ptr q]))
    (hqs : ∃ F, W.rowIs (B + 2) 38 n F ∧ (∀ j, j < i → F j = ptr (gs.getD j 0)) ∧ F i = ptr q)
    (hfm : ∃ F, W.rowIs (B + 3) 27 (n * 3) F ∧ TimesAre F i (fun j => fr (gs.getD j 0)) ∧ F (i * 3) = .int .u64 (X.fz i % 1000000000) ∧ F (i * 3 + 1) = .int .i64 (X.fz i / 1000000000) ∧ F (i * 3 + 2) = .pointer none) :
    L1 w B n X now (i + 1) (gs ++ [q]) D' (updZ fr q (X.fz i)) v' W := by
  have hl := h.l1.len
  have hX : ∀ k, (k = B + 1 ∨ k = B + 2 ∨ k = B + 3 ∨ v.ownBlock = some k) → ∃ t m F, wr.rowIs k t m F ∧ t ≠ 45 ∧ t ≠ 46 ∧ t ≠ 62 := by
    intro k hk
    rcases hk with rfl | rfl | rfl | hk
    · exact ⟨34, _, _, h.l1.rr, by decide, by decide, by decide⟩
    · obtain ⟨F, hF, _⟩ := h.l1.qs
      exact ⟨38, _, F, hF, by decide, by decide, by decide⟩
    · obtain ⟨F, hF, _⟩ := h.l1.fm
      exact ⟨27, _, F, hF, by decide, by decide, by decide⟩
    · rcases h.l1.own.2 with ⟨rfl, _⟩ | ⟨g, cap, cur, rfl, hb, hg, hn, hm, hs, ht⟩
      · simp [Value.ownBlock] at hk
      · simp [Value.ownBlock] at hk
        subst hk
        exact ⟨38, _, _, row_of_cells hg, by decide, by decide, by decide⟩
  have hsz := h.l1.size
  have hB := h.l1.base
  have hge : ∀ k, (k = B + 1 ∨ k = B + 2 ∨ k = B + 3 ∨ v.ownBlock = some k) → B + 1 ≤ k := by
    intro k hk
    rcases hk with rfl | rfl | rfl | hk
    · omega
    · omega
    · omega
    · have := (h.l1.own.lt k hk).1
      omega
  obtain ⟨FQ, hFQ, fq, fqi⟩ := hqs
  obtain ⟨FF, hFF, ff, e0, e1, e2⟩ := hfm
  have hq0 : ∀ j, j < i → gs.getD j 0 ≠ q := fun j hj e => h.new (e ▸ getD_mem gs j (by omega))
  refine ⟨h.l1.bel.trans (hk.below (by have := h.l1.bel.size; omega) (fun k hx => by have := hge k hx; omega)), h.l1.base, Nat.le_trans hsz hk.size, by simp [hl], ?_, hrr, by simpa using hown, ⟨FQ, hFQ, fun j hj => ?_⟩, ⟨FF, hFF, fun j hj => ?_⟩, fun j hj => ?_, ?_, fun x hx => ?_⟩
  · exact hk.rowIs h.l1.box (fun hx => by have := hge B hx; omega)
  · by_cases hji : j = i
    · subst hji
      rw [← hl, getD_snoc_eq, hl]
      exact fqi
    · rw [getD_snoc_lt gs q j (by omega)]
      exact fq j (by omega)
  · by_cases hji : j = i
    · subst hji
      have e : (gs ++ [q]).getD j 0 = q := by rw [← hl, getD_snoc_eq]
      simp only [e, updZ_same]
      exact ⟨e0, e1, e2⟩
    · have e := getD_snoc_lt gs q j (by omega)
      simp only [e, updZ_other fr (X.fz i) (hq0 j (by omega))]
      exact ff j (by omega)
  · by_cases hji : j = i
    · subst hji
      have e : (gs ++ [q]).getD j 0 = q := by rw [← hl, getD_snoc_eq]
      rw [e, updZ_same]
      exact ⟨kept_group h.grp hk hX, ⟨h.ok.1, h.ok.2.1, h.ok.2.2.1, h.ok.2.2.2, updZ_same _ _ _⟩⟩
    · rw [getD_snoc_lt gs q j (by omega), updZ_other fr (X.fz i) (hq0 j (by omega))]
      obtain ⟨g1, g2⟩ := h.l1.groups j (by omega)
      obtain ⟨o1, o2, o3, o4, o5, o6⟩ := h.old _ (getD_mem gs j (by omega))
      exact ⟨(kept_group g1 hk hX).congr o1 o2 o3 o4 o5 o6, ⟨o1.trans g2.has, o4.trans g2.due, o5.trans g2.gap, o6.trans g2.pau, by rw [updZ_other fr (X.fz i) (hq0 j (by omega))]; exact g2.fr⟩⟩
  · rw [List.nodup_append]
    refine ⟨h.l1.nodup, by simp, fun a ha b hb => ?_⟩
    simp at hb
    subst hb
    exact fun e => h.new (e ▸ ha)
  · rcases List.mem_append.1 hx with hx | hx
    · exact h.l1.ge x hx
    · obtain rfl : x = q := by simpa using hx
      exact h.newge

/-- A group's queue as it is made. -/
def GRow (W : World) (q : Nat) (X : BArgs) (i : Nat) : Prop :=
  ∃ F, W.rowIs q 45 12 F ∧ F 0 = .slice none 0 0 ∧ F 1 = .int .i64 (X.mg i) ∧ F 2 = .int .u64 (X.fz i % 1000000000) ∧ F 3 = .int .i64 (X.fz i / 1000000000) ∧ F 4 = .pointer none ∧
    F 5 = .int .u64 (X.pa i % 1000000000) ∧ F 6 = .int .i64 (X.pa i / 1000000000) ∧ F 7 = .pointer none ∧ F 10 = .pointer none ∧ F 11 = .int .i64 (i : Nat)

theorem own_setOther {W : World} {base i : Nat} {v : Value} {xs : List Value} (h : W.ownsRow base 38 1 v i xs) {q t n : Nat} {F : Nat → Value} (hq : W.rowIs q t n F) (ht : t ≠ 38) (o : Nat) (u : Value) : (W.setCell ⟨q, o, none⟩ u).ownsRow base 38 1 v i xs := by
  refine ⟨h.1, ?_⟩
  rcases h.2 with h0 | ⟨g, cap, cur, rfl, hb, hg, rest⟩
  · exact .inl h0
  · exact .inr ⟨g, cap, cur, rfl, hb, (Below.heap_setCell W ⟨q, o, none⟩ u g (row_ne (row_of_cells hg) hq (Ne.symm ht))).trans hg, rest⟩

theorem L1.setq {w wr : World} {B n i : Nat} {X : BArgs} {now : Int} {gs : List Nat} {D : GData} {fr : Nat → Int} {v : Value} (h : L1 w B n X now i gs D fr v wr) {q : Nat} {F : Nat → Value} (hq : wr.rowIs q 45 12 F) (hnew : q ∉ gs) (hge : w.heap.size ≤ q) (o : Nat) (u : Value) : L1 w B n X now i gs D fr v (wr.setCell ⟨q, o, none⟩ u) := by
  obtain ⟨FQ, hFQ, fq⟩ := h.qs
  obtain ⟨FF, hFF, ff⟩ := h.fm
  refine ⟨bset h.bel hge u, h.base, by simpa using h.size, h.len, h.box.setOther (row_ne h.box hq (by decide)) u, h.rr.setOther (row_ne h.rr hq (by decide)) u, own_setOther h.own hq (by decide) o u, ⟨FQ, hFQ.setOther (row_ne hFQ hq (by decide)) u, fq⟩, ⟨FF, hFF.setOther (row_ne hFF hq (by decide)) u, ff⟩, fun j hj => ⟨(h.groups j hj).1.other_group hq (fun e => hnew (e ▸ getD_mem gs j (by rw [h.len]; exact hj))) o u, (h.groups j hj).2⟩, h.nodup, h.ge⟩

theorem addG_old (D : GData) (q sa sb : Nat) (X : BArgs) (i x : Nat) (h : x ≠ q) : (addG D q sa sb X i).has x = D.has x ∧ (addG D q sa sb X i).sa x = D.sa x ∧ (addG D q sa sb X i).sb x = D.sb x ∧ (addG D q sa sb X i).due x = D.due x ∧ (addG D q sa sb X i).gap x = D.gap x ∧ (addG D q sa sb X i).pau x = D.pau x := by
  simp [addG, h]

theorem addG_new (D : GData) (q sa sb : Nat) (X : BArgs) (i : Nat) : (addG D q sa sb X i).has q = X.hs i ∧ (addG D q sa sb X i).sa q = sa ∧ (addG D q sa sb X i).sb q = sb ∧ (addG D q sa sb X i).due q = X.du i ∧ (addG D q sa sb X i).gap q = X.mg i ∧ (addG D q sa sb X i).pau q = X.pa i := by
  simp [addG]

/-- A group without a slot. -/
theorem L1.mid_false {w wr : World} {B n i : Nat} {X : BArgs} {now : Int} {gs : List Nat} {D : GData} {fr : Nat → Int} {v : Value} (h : L1 w B n X now i gs D fr v wr) {q : Nat} (hnew : q ∉ gs) (hge : w.heap.size ≤ q) (hg : GRow wr q X i) (hh : X.hs i = false) :
    L1mid w B n X now i gs D fr v q (addG D q 0 0 X i) wr := by
  obtain ⟨n1, n2, n3, n4, n5, n6⟩ := addG_new D q 0 0 X i
  obtain ⟨F, hF, f0, f1, f2, f3, f4, f5, f6, f7, f10, f11⟩ := hg
  refine ⟨h, hnew, hge, fun x hx => addG_old D q 0 0 X i x (fun e => hnew (e ▸ hx)), ⟨⟨F, hF, ⟨by rw [n1, hh]; exact f0, by rw [n5]; exact f1, f2, f3, f4, by rw [n6]; exact f5, by rw [n6]; exact f6, f7, f10, f11⟩⟩, fun hx => ?_⟩, n1, n4, n5, n6⟩
  rw [n1, hh] at hx
  cases hx

/-- A group with a slot. -/
theorem L1.mid_true {w wr : World} {B n i : Nat} {X : BArgs} {now : Int} {gs : List Nat} {D : GData} {fr : Nat → Int} {v : Value} (h : L1 w B n X now i gs D fr v wr) {q : Nat} (hnew : q ∉ gs) (hge : w.heap.size ≤ q) (hg : GRow wr q X i) (hh : X.hs i = true)
    {c1 : Array Value} (hc : c1.size = 39) (h13 : c1[13]? = some (.int .u64 (X.du i % 1000000000))) (h14 : c1[14]? = some (.int .i64 (X.du i / 1000000000))) (h15 : c1[15]? = some (.pointer none)) :
    L1mid w B n X now i gs D fr v q (addG D q (wr.heap.size + 1) wr.heap.size X i) (((wr.setCell ⟨q, 0, none⟩ (.slice (some ⟨wr.heap.size + 1, 0, none⟩) 1 1)).alloc (.cells c1 62)).alloc (.cells #[.pointer (some ⟨wr.heap.size, 0, none⟩)] 46)) := by
  obtain ⟨n1, n2, n3, n4, n5, n6⟩ := addG_new D q (wr.heap.size + 1) wr.heap.size X i
  obtain ⟨F, hF, f0, f1, f2, f3, f4, f5, f6, f7, f10, f11⟩ := hg
  have rb := row_of_cells (heap_alloc_new (wr.setCell ⟨q, 0, none⟩ (.slice (some ⟨wr.heap.size + 1, 0, none⟩) 1 1)) (.cells c1 62))
  have ra := row_of_cells (heap_alloc_new ((wr.setCell ⟨q, 0, none⟩ (.slice (some ⟨wr.heap.size + 1, 0, none⟩) 1 1)).alloc (.cells c1 62)) (.cells #[.pointer (some ⟨wr.heap.size, 0, none⟩)] 46))
  rw [hc] at rb
  simp only [World.size_alloc, World.size_setCell] at ra rb
  refine ⟨(h.setq hF hnew hge 0 _).below (bal (bal (Below.refl _ _) _) _), hnew, hge, fun x hx => addG_old D q _ _ X i x (fun e => hnew (e ▸ hx)), ⟨⟨_, ((hF.set 0 _).alloc _).alloc _, ⟨by rw [n1, n2, hh]; simp, by rw [n5]; simpa using f1, by simpa using f2, by simpa using f3, by simpa using f4, by rw [n6]; simpa using f5, by rw [n6]; simpa using f6, by simpa using f7, by simpa using f10, by simpa using f11⟩⟩, fun _ => ⟨?_, ?_⟩⟩, n1, n4, n5, n6⟩
  · rw [n2, n3]
    exact ⟨_, ra, rfl⟩
  · rw [n3, n4]
    exact ⟨_, rb.alloc _, by rw [h13]; rfl, by rw [h14]; rfl, by rw [h15]; rfl⟩

theorem own_set_lt {W : World} {base i e : Nat} {v : Value} {xs : List Value} (h : W.ownsRow base e 1 v i xs) {q : Nat} (hq : q < base) (o : Nat) (u : Value) : (W.setCell ⟨q, o, none⟩ u).ownsRow base e 1 v i xs := by
  refine ⟨h.1, ?_⟩
  rcases h.2 with h0 | ⟨g, cap, cur, rfl, hb, hg, rest⟩
  · exact .inl h0
  · exact .inr ⟨g, cap, cur, rfl, hb, (Below.heap_setCell W ⟨q, o, none⟩ u g (by dsimp only; omega)).trans hg, rest⟩

theorem Kept.grown {X : Nat → Prop} {A B C : World} (h : Kept X A B) {row : Option Nat} (hg : B.grownBy C row) (hX : ∀ k, row = some k → X k) : Kept X A C :=
  ⟨hg.os.trans h.os, hg.tape.trans h.tape, hg.output.trans h.output, Nat.le_trans h.size hg.size, fun k hk hx => (hg.block k (Nat.lt_of_lt_of_le hk h.size) (fun e => hx (hX k e.symm))).trans (h.block k hk hx)⟩

theorem grown_row {W W' : World} {row : Option Nat} (hg : W.grownBy W' row) {b t n : Nat} {F : Nat → Value} (h : W.rowIs b t n F) (hb : some b ≠ row) : W'.rowIs b t n F := h.of_block (hg.block b h.lt hb)

/-- The round's end, as the walk has it. -/
theorem L1mid.close {w wx w5 : World} {B n i : Nat} {X : BArgs} {now : Int} {gs : List Nat} {D D' : GData} {fr : Nat → Int} {v v' : Value} {q : Nat} (h : L1mid w B n X now i gs D fr v q D' wx) (o : Obj)
    (hown : w5.ownsRow (B + 4) 38 1 v' (i + 1) (gs.map ptr ++ [ptr q]))
    (hg : (((((wx.setCell ⟨B + 2, i, none⟩ (ptr q)).setCell ⟨B + 3, i * 3, none⟩ (.int .u64 (X.fz i % 1000000000))).setCell ⟨B + 3, i * 3 + 1, none⟩ (.int .i64 (X.fz i / 1000000000))).setCell ⟨B + 3, i * 3 + 2, none⟩ (.pointer none)).alloc o).grownBy w5 v.ownBlock) :
    L1 w B n X now (i + 1) (gs ++ [q]) D' (updZ fr q (X.fz i)) v' (w5.setCell ⟨B + 1, 0, none⟩ v') ∧ w5.rowIs (B + 1) 34 2 (fun k => if k = 0 then v else .slice none 0 0) := by
  obtain ⟨FQ, hFQ, fq⟩ := h.l1.qs
  obtain ⟨FF, hFF, ff⟩ := h.l1.fm
  have hsz := h.l1.size
  have ne : ∀ b, b < B + 4 → some b ≠ v.ownBlock := fun b hb e => by have := (h.l1.own.lt b e.symm).1; omega
  have rR := grown_row hg (((((h.l1.rr.setOther (a := ⟨B + 2, i, none⟩) (by dsimp only; omega) _).setOther (a := ⟨B + 3, i * 3, none⟩) (by dsimp only; omega) _).setOther (a := ⟨B + 3, i * 3 + 1, none⟩) (by dsimp only; omega) _).setOther (a := ⟨B + 3, i * 3 + 2, none⟩) (by dsimp only; omega) _).alloc o) (ne _ (by omega))
  have rQ := grown_row hg (((((hFQ.set i (ptr q)).setOther (a := ⟨B + 3, i * 3, none⟩) (by dsimp only; omega) _).setOther (a := ⟨B + 3, i * 3 + 1, none⟩) (by dsimp only; omega) _).setOther (a := ⟨B + 3, i * 3 + 2, none⟩) (by dsimp only; omega) _).alloc o) (ne _ (by omega))
  have rF := grown_row hg (((((hFF.setOther (a := ⟨B + 2, i, none⟩) (by dsimp only; omega) (ptr q)).set (i * 3) _).set (i * 3 + 1) _).set (i * 3 + 2) _).alloc o) (ne _ (by omega))
  refine ⟨h.step ?_ ?_ (own_set_lt hown (by omega) 0 v') ⟨_, rQ.setOther (by dsimp only; omega) v', fun j hj => ?_, by simp⟩ ⟨_, rF.setOther (by dsimp only; omega) v', fun j hj => ?_, ?_, ?_, ?_⟩, rR⟩
  · exact (((((((Kept.refl _ wx).setCell (a := ⟨B + 2, i, none⟩) (.inr (.inl rfl)) _).setCell (a := ⟨B + 3, i * 3, none⟩) (.inr (.inr (.inl rfl))) _).setCell (a := ⟨B + 3, i * 3 + 1, none⟩) (.inr (.inr (.inl rfl))) _).setCell (a := ⟨B + 3, i * 3 + 2, none⟩) (.inr (.inr (.inl rfl))) _).alloc o).grown hg (fun k hk => .inr (.inr (.inr hk)))).setCell (a := ⟨B + 1, 0, none⟩) (.inl rfl) _
  · exact (rR.set 0 v').congr (fun k _ => by by_cases hk : k = 0 <;> simp [hk])
  · simp only [if_neg (show ¬ j = i by omega)]
    exact fq j hj
  · simp only [if_neg (show ¬ j * 3 = i * 3 + 2 by omega), if_neg (show ¬ j * 3 = i * 3 + 1 by omega), if_neg (show ¬ j * 3 = i * 3 by omega), if_neg (show ¬ j * 3 + 1 = i * 3 + 2 by omega), if_neg (show ¬ j * 3 + 1 = i * 3 + 1 by omega), if_neg (show ¬ j * 3 + 1 = i * 3 by omega), if_neg (show ¬ j * 3 + 2 = i * 3 + 2 by omega), if_neg (show ¬ j * 3 + 2 = i * 3 + 1 by omega), if_neg (show ¬ j * 3 + 2 = i * 3 by omega)]
    exact ff j hj
  · simp
  · simp
  · simp
end Go.Proofs.Ybulkbyaq
