/-
  The walk of (*readyQueue).countCalls.
-/
import Derived.Test.YbulkbyaqCount
import Derived.BigQuiet
import Derived.Deep.RegionWith
namespace Go.Proofs.Ybulkbyaq
open Go.RowKit

/-- What countCalls is told. -/
structure CIn (w : World) (R g cap U m : Nat) (D : GData) (C : UData) (now : Int) (l0 us : List Nat) (A0 : Nat → Value) (fr0 : Nat → Int) : Prop where
  inv : CInv w R g cap U m D l0 A0 fr0 w
  len : us.length = m
  most : m ≤ 512
  few : l0.length ≤ 512
  cells : ∀ k, k < m → A0 k = .pointer (some ⟨us.getD k 0, 0, none⟩)
  slots : ∀ s, s ∈ us → UIs w C s ∧ C.grp s ∈ l0
  gap : ∀ x, x ∈ l0 → -9223372036854775808 ≤ D.gap x ∧ D.gap x ≤ 9223372036854775807
  called : ∀ s, s ∈ us → ∀ p, C.cal s = some p → -9223372036854775808 ≤ p.2 ∧ p.2 ≤ 9223372036854775807
  now0 : -9223372036854775808 ≤ now
  now1 : now ≤ 9223372036854775807

/-- What stands ahead of round k. -/
structure CAt (w : World) (R g cap U m : Nat) (D : GData) (C : UData) (now : Int) (l0 us : List Nat) (fr0 : Nat → Int) (k : Nat) (wr : World) : Prop where
  inv : ∃ A, CInv (w.alloc (.cells (tm now) 27)) R g cap U m D l0 A (foldZ D C now fr0 (us.take k)) wr ∧ (∀ j, j < (keptL C (us.take k)).length → A j = .pointer (some ⟨(keptL C (us.take k)).getD j 0, 0, none⟩)) ∧ ∀ j, k ≤ j → j < m → A j = .pointer (some ⟨us.getD j 0, 0, none⟩)

theorem CIn.rows {w : World} {R g cap U m : Nat} {D : GData} {C : UData} {now : Int} {l0 us : List Nat} {A0 : Nat → Value} {fr0 : Nat → Int} (h : CIn w R g cap U m D C now l0 us A0 fr0) (k : Nat) (hk : k = g ∨ k = U ∨ k ∈ l0) : ∃ t n F, (w.alloc (.cells (tm now) 27)).rowIs k t n F ∧ t ≠ 62 ∧ t ≠ 27 := by
  have hi := h.inv.below (bal (Below.refl _ w) (.cells (tm now) 27))
  obtain ⟨l, hl, hp⟩ := hi.heap
  rcases hk with rfl | rfl | hk
  · obtain ⟨G, hG, _⟩ := hl.arr
    exact ⟨38, _, G, hG, by decide, by decide⟩
  · exact ⟨46, _, _, hi.arr, by decide, by decide⟩
  · obtain ⟨i, hg⟩ := hi.group hk
    obtain ⟨G, hG, _⟩ := hg.row
    exact ⟨45, _, G, hG, by decide, by decide⟩

theorem CIn.uis {w wr : World} {R g cap U m : Nat} {D : GData} {C : UData} {now : Int} {l0 us : List Nat} {A0 A : Nat → Value} {fr0 fr : Nat → Int} (h : CIn w R g cap U m D C now l0 us A0 fr0) (hi : CInv (w.alloc (.cells (tm now) 27)) R g cap U m D l0 A fr wr) {s : Nat} (hs : s ∈ us) : UIs wr C s :=
  ((h.slots s hs).1.below (bal (Below.refl _ w) (.cells (tm now) 27))).kept hi.kept h.rows

theorem CIn.box {w wr : World} {R g cap U m : Nat} {D : GData} {C : UData} {now : Int} {l0 us : List Nat} {A0 A : Nat → Value} {fr0 fr : Nat → Int} (h : CIn w R g cap U m D C now l0 us A0 fr0) (hi : CInv (w.alloc (.cells (tm now) 27)) R g cap U m D l0 A fr wr) :
    wr.rowIs w.heap.size 27 3 (fun i => if i = 0 then .int .u64 (now % 1000000000) else if i = 1 then .int .i64 (now / 1000000000) else .pointer none) := by
  have r := row3 w (.int .u64 (now % 1000000000)) (.int .i64 (now / 1000000000)) (.pointer none) 27
  refine hi.kept.rowIs r (fun hx => ?_)
  obtain ⟨t, n, F, hF, _, ht⟩ := h.rows _ hx
  exact row_ne hF r ht rfl

theorem add1 (N d T : Int) (hT : N + d = T) (w : World) (hN0 : -9223372036854775808 ≤ N) (hN1 : N ≤ 9223372036854775807) (hd0 : -9223372036854775808 ≤ d) (hd1 : d ≤ 9223372036854775807) :
    Calls Yba.prog 9 #[.agg #[.int .u64 (N % 1000000000), .int .i64 (N / 1000000000), .pointer none], .int .i64 d] w fun e w' => e = .returned (.agg #[.int .u64 (T % 1000000000), .int .i64 (T / 1000000000), .pointer none]) ∧
      w' = (w.alloc (.cells #[.int .u64 (T % 1000000000), .int .i64 (T / 1000000000), .pointer none] 27)).alloc (.cells #[.int .u64 (T % 1000000000), .int .i64 (T / 1000000000), .pointer none] 27) := by
  subst hT
  exact add_any N d w (by unfold InTime; omega) hd0 hd1

theorem wpList_append_in (w : World) {ops : Array Oper} {rest : List Oper} {o : Oper} {a : Act} {Q : Exit → Act → World → Prop} (hg : o.guard = none) (s x : Operand) (hop : o.op = Op.call { callee := Callee.builtin Builtin.append, args := #[s, x], argTypes := #[32, 32] })
    (U b c m sb : Nat) (F : Nat → Value) (hs : a.eval s = .slice (some ⟨U, 0, none⟩) c m) (hx : a.eval x = .slice (some ⟨b, 0, none⟩) 1 1) (hr : w.rowIs U 46 m F) (hc : c < m) (hcell : w.cell? ⟨b, 0, none⟩ = some (.pointer (some ⟨sb, 0, none⟩)))
    (hK : wpList Yba.prog ops Q rest (a.put o.dst (.slice (some ⟨U, 0, none⟩) (c + 1) m)) (w.setCell ⟨U, c, none⟩ (.pointer (some ⟨sb, 0, none⟩)))) : wpList Yba.prog ops Q (o :: rest) a w := by
  refine wpList_plain hg fun K hK' => ?_
  have hrun := run_append_in w U b c m sb o.type F hr hc hcell
  unfold Oper.wp
  simp [execOp, hop, resolve, invoke, builtin, hs, hx, hrun, Result.andThen]
  exact hK' _ _ hK

theorem wpList_clear_in (w w' : World) {ops : Array Oper} {rest : List Oper} {o : Oper} {a : Act} {Q : Exit → Act → World → Prop} (hg : o.guard = none) (s : Operand) (hop : o.op = Op.call { callee := Callee.builtin Builtin.clear, args := #[s], argTypes := #[32] })
    (v : Value) (hs : a.eval s = v) (hrun : ∀ ty, (Builtin.clear_ #[32] ty #[v]).run Yba.prog w = .ok (.tuple #[]) w')
    (hK : wpList Yba.prog ops Q rest (a.put o.dst (.tuple #[])) w') : wpList Yba.prog ops Q (o :: rest) a w := by
  refine wpList_plain hg fun K hK' => ?_
  have hrun := hrun o.type
  unfold Oper.wp
  simp [execOp, hop, resolve, invoke, builtin, hs, hrun, Result.andThen]
  exact hK' _ _ hK

set_option maxRecDepth 100000 in
set_option maxHeartbeats 1600000 in
theorem count_any (w : World) (R g cap U m : Nat) (D : GData) (C : UData) (now : Int) (l0 us : List Nat) (A0 : Nat → Value) (fr0 : Nat → Int) (h : CIn w R g cap U m D C now l0 us A0 fr0) :
    Calls Yba.prog 11 #[.pointer (some ⟨R, 0, none⟩), .agg (tm now)] w fun e w' => e = .returned (.tuple #[]) ∧
      (∃ l, HIs w' R g cap D (foldZ D C now fr0 us) l ∧ l.Perm l0) ∧ w'.cell? ⟨R, 1, none⟩ = some (.slice (some ⟨U, 0, none⟩) (keptL C us).length m) ∧
      (∃ A, w'.rowIs U 46 m A ∧ (∀ k, k < (keptL C us).length → A k = .pointer (some ⟨(keptL C us).getD k 0, 0, none⟩)) ∧ ∀ k, (keptL C us).length ≤ k → k < m → A k = .pointer none) ∧
      Kept (fun k => k = R ∨ k = g ∨ k = U ∨ k ∈ l0) w w' := by
  have H := Lib.hid h
  have hm5 := h.most
  have c1 := h.inv.unc
  have lR := lt_of_cell c1
  clear h
  go_enter Yba.func11, Yba.ntmps11
  unfold tm
  go_wp2
  go_loopg [4, 21] m (fun gh kv iv wr => ∃ k : Nat, k + gh = m ∧ iv = .int .i64 (k : Nat) ∧ kv = .slice (some ⟨U, 0, none⟩) (keptL C (us.take k)).length m ∧ CAt w R g cap U m D C now l0 us fr0 k wr)
  case atStart =>
    refine ⟨0, by omega, rfl, rfl, ⟨A0, ?_, fun j hj => absurd hj (Nat.not_lt_zero _), fun j _ hj => H.out.cells j hj⟩⟩
    have := H.out.inv.below (bal (Below.refl _ w) (.cells (tm now) 27))
    exact ⟨this.heap, this.unc, this.arr, Kept.refl _ _, this.sa⟩
  case round =>
    obtain ⟨k, hk, rfl, rfl, hat⟩ := hrel
    obtain ⟨A, hinv, hA1, hA2⟩ := hat.inv
    have HI := Lib.hid hinv
    have HA := Lib.hid (And.intro hA1 hA2)
    clear hat
    by_cases hlt : k < m
    · obtain ⟨s, hs⟩ : ∃ s, us.getD k 0 = s := ⟨_, rfl⟩
      have hsm : s ∈ us := hs ▸ getD_mem us k (by rw [H.out.len]; exact hlt)
      have cU : wr.cell? ⟨U, k, none⟩ = some (.pointer (some ⟨s, 0, none⟩)) := (hinv.arr.cell hlt).trans (by rw [hA2 k (Nat.le_refl _) hlt, hs])
      have hu := H.out.uis hinv hsm
      obtain ⟨x, hx⟩ : ∃ x, C.grp s = x := ⟨_, rfl⟩
      have hxm : x ∈ l0 := hx ▸ (H.out.slots s hsm).2
      obtain ⟨S, hS, s12, s38⟩ := hu.row
      rw [hx] at s12
      have cS := (hS.cell (i := 12) (by omega)).trans (by rw [s12])
      obtain ⟨i, hg⟩ := hinv.group hxm
      obtain ⟨F, hF, cF⟩ := hg.row
      generalize hfr : foldZ D C now fr0 (us.take k) = fr at *
      cases hcal : C.cal s with
      | some p =>
        obtain ⟨tb, ta⟩ := p
        have c38 : wr.cell? ⟨s, 38, none⟩ = some (.pointer (some ⟨tb, 0, none⟩)) := (hS.cell (i := 38) (by omega)).trans (by rw [s38, hcal]; rfl)
        obtain ⟨f, hf, f0, f1, f2⟩ := hu.time (tb, ta) hcal
        dsimp only at hf f0 f1 f2
        have HL := Lib.hid (load_some s tb f wr c38 hf)
        have t0 := (hf.cell (i := 0) (by omega)).trans (by rw [f0])
        have t1 := (hf.cell (i := 1) (by omega)).trans (by rw [f1])
        have t2 := (hf.cell (i := 2) (by omega)).trans (by rw [f2])
        have g1 := (hF.cell (i := 1) (by omega)).trans (by rw [cF.gap])
        have g2 := (hF.cell (i := 2) (by omega)).trans (by rw [cF.f0])
        have g3 := (hF.cell (i := 3) (by omega)).trans (by rw [cF.f1])
        have g4 := (hF.cell (i := 4) (by omega)).trans (by rw [cF.f2])
        have lx := hF.lt
        have lt := hf.lt
        have HH := Lib.hid (And.intro hS (And.intro hg (And.intro hu hF)))
        clear hS hf hg hu hF hinv hA1 hA2 cF s12 s38 f0 f1 f2 c38
        go_wp2_with fail
        refine HL.out.mono ?_
        rintro e w' ⟨rfl, hw⟩
        subst hw
        clear HL
        have z2 := HH.out.2.2.2.frozen 2
        have z3 := HH.out.2.2.2.frozen 3
        have z4 := HH.out.2.2.2.frozen 4
        obtain ⟨ga0, ga1⟩ := H.out.gap x hxm
        obtain ⟨ca0, ca1⟩ := H.out.called s hsm _ hcal
        dsimp only at ca0 ca1
        obtain ⟨T1, hT1⟩ : ∃ T1, ta + D.gap x = T1 := ⟨_, rfl⟩
        obtain ⟨T, hT⟩ : ∃ T, laterZ (fr x) T1 = T := ⟨_, rfl⟩
        have HT := Lib.hid (And.intro hT1 hT)
        have HQ := Lib.hid (And.intro hxm (And.intro hsm (And.intro hcal (And.intro hx (And.intro hs hfr)))))
        have lx1 : x < w'.heap.size + 1 := by omega
        have lx2 : x < w'.heap.size + 1 + 1 := by omega
        have lx3 : x < w'.heap.size + 1 + 1 + 1 := by omega
        have lt1 : tb < w'.heap.size + 1 := by omega
        have lt2 : tb < w'.heap.size + 1 + 1 := by omega
        have lt3 : tb < w'.heap.size + 1 + 1 + 1 := by omega
        clear hT1 hT hxm hsm hcal hx hs hfr
        go_wp2
        go_cut [49] (fun _ wc => CInv (w.alloc (.cells (tm now) 27)) R g cap U m D l0 A (updZ fr x T) wc)
        case first =>
          go_region_with
            (first | (go_at_call 9; refine (add1 ta (D.gap x) T1 HT.out.1 _ ca0 ca1 ga0 ga1).mono ?_; rintro e w2 ⟨rfl, rfl⟩)
                   | (go_at_call 25; refine (later1 (fr x) T1 T HT.out.2 _ 1 _ (by simp [go_sem]) (by simp [go_sem]) (by simp [go_sem])).mono ?_
                      rintro e w2 ⟨rfl, hb⟩
                      have hB : Below w'.heap.size w' w2 := btrans (bal (bal (bal (Below.refl _ w') _) _) _).drew hb
                      have h11 := hB.size
                      have h12 := cell_kept hB g1
                      have h13 := cell_kept hB g2
                      have h14 := cell_kept hB g3
                      have h15 := cell_kept hB g4
                      have h16 := cell_kept hB t0
                      have h17 := cell_kept hB t1
                      have h18 := cell_kept hB t2
                      have h19 := (World.frozen?_of_block (a := ⟨x, 2, none⟩) (hB.block x lx)).trans z2
                      have h20 := (World.frozen?_of_block (a := ⟨x, 3, none⟩) (hB.block x lx)).trans z3
                      have h21 := (World.frozen?_of_block (a := ⟨x, 4, none⟩) (hB.block x lx)).trans z4))
          all_goals
            go_wp2
            go_meet
            case rel => exact (HI.out.below hB).free HQ.out.1 T
        case rest =>
          have hst : foldZ D C now fr0 (us.take (k + 1)) = updZ fr x T := by
            rw [foldZ_step D C now fr0 us k (by rw [H.out.len]; exact hlt), HQ.out.2.2.2.2.2, HQ.out.2.2.2.2.1]
            unfold stepZ
            rw [HQ.out.2.2.1]
            simp only
            rw [HQ.out.2.2.2.1, HT.out.1, HT.out.2]
          have hkp : keptL C (us.take (k + 1)) = keptL C (us.take k) := by
            rw [keptL_step C us k (by rw [H.out.len]; exact hlt), HQ.out.2.2.2.2.1, HQ.out.2.2.1]
            rfl
          obtain ⟨l, hl, hp⟩ := hcut.heap
          obtain ⟨i2, hi2, he2⟩ := mem_at (hp.mem_iff.2 HQ.out.1)
          obtain ⟨F2, hF2, cF2⟩ := (hl.groups i2 hi2).row
          rw [he2] at hF2
          have c11 := (hF2.cell (i := 11) (by omega)).trans (by rw [cF2.ix])
          have HC := Lib.hid hcut
          have HL2 := Lib.hid (And.intro hl (And.intro hp hi2))
          have HST := Lib.hid (And.intro hst hkp)
          have hl5 := hp.length_eq
          have hf5 := H.out.few
          have hi5 : i2 < 512 := by omega
          clear cU cS t0 t1 t2 g1 g2 g3 g4 z2 z3 z4 hcut hl hp hF2 cF2 hst hkp
          go_wp2
          go_region_with (first | (go_at_call 27; refine (fix_any R g cap i2 D (updZ fr x T) l _ (by omega) (HL2.out.1.below (Below.refl _ _).drew) hi2).mono ?_; rintro e w3 ⟨rfl, l3, hg3⟩))
          all_goals
            go_wp2
            go_roundg (m - (k + 1))
            case measure => omega
            case rel =>
              refine ⟨k + 1, by omega, rfl, by rw [HST.out.2], ⟨A, ?_, ?_, ?_⟩⟩
              · rw [HST.out.1]
                exact (HC.out.below (Below.refl _ _).drew).fix (HL2.out.1.below (Below.refl _ _).drew) HL2.out.2.1 hg3
              · rw [HST.out.2]
                exact HA.out.1
              · exact fun j hj => HA.out.2 j (by omega)
      | none =>
        have c38 : wr.cell? ⟨s, 38, none⟩ = some (.pointer none) := (hS.cell (i := 38) (by omega)).trans (by rw [s38, hcal]; rfl)
        have HL := Lib.hid (load_none s wr c38)
        have hkl := keptL_le C us k
        obtain ⟨c, hcl⟩ : ∃ c, (keptL C (us.take k)).length = c := ⟨_, rfl⟩
        have hkp : keptL C (us.take (k + 1)) = keptL C (us.take k) ++ [s] := by
          rw [keptL_step C us k (by rw [H.out.len]; exact hlt), hs, hcal]
          rfl
        have hstep : foldZ D C now fr0 (us.take (k + 1)) = stepZ D C now fr s := by rw [foldZ_step D C now fr0 us k (by rw [H.out.len]; exact hlt), hfr, hs]
        unfold stepZ at hstep
        rw [hcal] at hstep
        simp only at hstep
        rw [hx] at hstep
        have HK := Lib.hid (And.intro hkp (And.intro hstep hcl))
        have HQ := Lib.hid (And.intro hxm (And.intro hsm (And.intro hcal (And.intro hx (And.intro hs hfr)))))
        have hcm : c < m := by omega
        rw [hcl]
        clear hS hg hu hF hinv hA1 hA2 cF s12 s38 c38 hkp hstep hkl hxm hsm hcal hx hs hfr hcl
        go_wp2_with fail
        refine HL.out.mono ?_
        rintro e w' ⟨rfl, hw⟩
        subst hw
        clear HL
        go_wp2_with (first | (at_builtin; refine wpList_append_in _ rfl _ _ rfl U _ c m s A rfl rfl (HI.out.arr.alloc _) hcm (by simp [go_sem]) ?_) | fail)
        have HI1 := Lib.hid ((HI.out.below (bal (Below.refl _ w') (.cells #[.pointer (some ⟨s, 0, none⟩)] 46))).append c (.pointer (some ⟨s, 0, none⟩)))
        have HA1 : Hid ((∀ j, j < (keptL C (us.take (k + 1))).length → (fun k => if k = c then Value.pointer (some ⟨s, 0, none⟩) else A k) j = .pointer (some ⟨(keptL C (us.take (k + 1))).getD j 0, 0, none⟩)) ∧ (∀ j, k + 1 ≤ j → j < m → (fun k => if k = c then Value.pointer (some ⟨s, 0, none⟩) else A k) j = .pointer (some ⟨us.getD j 0, 0, none⟩)) ∧ (keptL C (us.take (k + 1))).length = c + 1) := by
          refine Lib.hid ⟨fun j hj => ?_, fun j hj hjm => ?_, by rw [HK.out.1]; simp [HK.out.2.2]⟩
          · have h1 := HK.out.2.2
            rw [HK.out.1] at hj ⊢
            rw [List.length_append, List.length_singleton, h1] at hj
            by_cases hjc : j = c
            · subst hjc
              simp [List.getD_eq_getElem?_getD, ← h1]
            · have h2 := HA.out.1 j (by omega)
              simp only [if_neg hjc, h2]
              rw [List.getD_eq_getElem?_getD, List.getD_eq_getElem?_getD, List.getElem?_append_left (by omega)]
          · have h1 := HK.out.2.2
            have h2 := keptL_le C us k
            show (if j = c then _ else A j) = _
            rw [if_neg (by omega)]
            exact HA.out.2 j (by omega) hjm
        obtain ⟨i1, hg1⟩ := HI1.out.group HQ.out.1
        refine (group_next hg1 _ (Below.refl _ _)).mono ?_
        rintro e w2 ⟨rfl, hb2⟩
        have HI2 := Lib.hid (HI1.out.below (btrans hb2 (bal (Below.refl _ w2) (.cells (tm (nextZ D x (fr x))) 27))))
        clear hg1 hb2
        generalize hN : nextZ D x (fr x) = N at HK HI2 ⊢
        have HN := Lib.hid hN
        have hbx := H.out.box HI2.out
        unfold tm at HI2 hbx ⊢
        have b0 := hbx.cell (i := 0) (by omega)
        have b1 := (hbx.cell (i := 1) (by omega)).trans (show _ = some (Value.int .i64 (now / 1000000000)) from rfl)
        have b2 := (hbx.cell (i := 2) (by omega)).trans (show _ = some (Value.pointer none) from rfl)
        simp only [if_true] at b0
        clear cU cS hN hbx
        cases hh : D.has x with
        | false =>
          have hst := HK.out.2.1
          rw [hh] at hst
          simp only [Bool.false_eq_true, false_and, if_false] at hst
          have HST := Lib.hid hst
          clear hst
          go_wp2
          go_roundg (m - (k + 1))
          case measure => omega
          case rel =>
            refine ⟨k + 1, by omega, rfl, by rw [HA1.out.2.2], ⟨_, ?_, HA1.out.1, HA1.out.2.1⟩⟩
            rw [HST.out]
            exact HI2.out
        | true =>
          by_cases hnx : now < N
          · have hd := decide_eq_true hnx
            have hst := HK.out.2.1
            rw [if_neg (by omega)] at hst
            have HST := Lib.hid hst
            clear hst
            go_wp2_with fail
            refine (after_any N now _).mono ?_
            rintro e w3 ⟨rfl, rfl⟩
            go_wp2
            go_roundg (m - (k + 1))
            case measure => omega
            case rel =>
              refine ⟨k + 1, by omega, rfl, by rw [HA1.out.2.2], ⟨_, ?_, HA1.out.1, HA1.out.2.1⟩⟩
              rw [HST.out]
              exact HI2.out.below (bal (bal (Below.refl _ _) _) _)
          · have hd := decide_eq_false hnx
            obtain ⟨T, hT⟩ : ∃ T, now + D.gap x = T := ⟨_, rfl⟩
            have hst := HK.out.2.1
            rw [if_pos ⟨hh, by omega⟩, hT] at hst
            have HST := Lib.hid (And.intro hst hT)
            clear hst hT
            go_wp2_with fail
            refine (after_any N now _).mono ?_
            rintro e w3 ⟨rfl, hw3⟩
            have HI3 : Hid (CInv (w.alloc (.cells (tm now) 27)) R g cap U m D l0 (fun k => if k = c then Value.pointer (some ⟨s, 0, none⟩) else A k) fr w3) := by
              rw [hw3]
              exact Lib.hid (HI2.out.below (bal (bal (Below.refl _ _) (.cells (tm N) 27)) (.cells (tm now) 27)))
            obtain ⟨ga0, ga1⟩ := H.out.gap x HQ.out.1
            have hn0 := H.out.now0
            have hn1 := H.out.now1
            obtain ⟨i3, hg3⟩ := HI3.out.group HQ.out.1
            obtain ⟨F3, hF3, cF3⟩ := hg3.row
            have hbx := H.out.box HI3.out
            have q0 := hbx.cell (i := 0) (by omega)
            have q1 := (hbx.cell (i := 1) (by omega)).trans (show _ = some (Value.int .i64 (now / 1000000000)) from rfl)
            have q2 := (hbx.cell (i := 2) (by omega)).trans (show _ = some (Value.pointer none) from rfl)
            simp only [if_true] at q0
            have g1 := (hF3.cell (i := 1) (by omega)).trans (by rw [cF3.gap])
            have g2 := hF3.cell (i := 2) (by omega)
            have g3 := hF3.cell (i := 3) (by omega)
            have g4 := hF3.cell (i := 4) (by omega)
            have z2 := hF3.frozen 2
            have z3 := hF3.frozen 3
            have z4 := hF3.frozen 4
            have lx := hF3.lt
            have lq := hbx.lt
            have nx : x ≠ w.heap.size := by
              obtain ⟨i0, hg0⟩ := H.out.inv.group HQ.out.1
              exact Nat.ne_of_lt hg0.lt
            have nx' : w.heap.size ≠ x := Ne.symm nx
            have lx1 : x < w3.heap.size + 1 := by omega
            have lx2 : x < w3.heap.size + 1 + 1 := by omega
            have lq1 : w.heap.size < w3.heap.size + 1 := by omega
            have lq2 : w.heap.size < w3.heap.size + 1 + 1 := by omega
            clear hw3 hg3 hF3 cF3 hbx b0 b1 b2
            go_wp2
            go_cut [74] (fun _ wc => CInv (w.alloc (.cells (tm now) 27)) R g cap U m D l0 (fun k => if k = c then Value.pointer (some ⟨s, 0, none⟩) else A k) (updZ fr x T) wc)
            case first =>
              go_region_held3 (fun w0 => w0.cell? ⟨x, 1, none⟩ = some (.int .i64 (D.gap x)) ∧ w0.cell? ⟨w.heap.size, 0, none⟩ = some (.int .u64 (now % 1000000000)) ∧ w0.cell? ⟨w.heap.size, 1, none⟩ = some (.int .i64 (now / 1000000000)) ∧ w0.cell? ⟨w.heap.size, 2, none⟩ = some (.pointer none)) (simp [go_sem, World.cell?_alloc_past, *])
                (first | (go_at_call 9; refine (add1 now (D.gap x) T HST.out.2 _ hn0 hn1 ga0 ga1).mono ?_; rintro e w4 ⟨rfl, rfl⟩))
              all_goals
                go_wp2
                go_meet
                case rel => exact (HI3.out.free HQ.out.1 T).below (bal (bal (Below.refl _ _) _) _).drew
            case rest =>
              obtain ⟨l, hl, hp⟩ := hcut.heap
              obtain ⟨i2, hi2, he2⟩ := mem_at (hp.mem_iff.2 HQ.out.1)
              obtain ⟨F2, hF2, cF2⟩ := (hl.groups i2 hi2).row
              rw [he2] at hF2
              have c11 := (hF2.cell (i := 11) (by omega)).trans (by rw [cF2.ix])
              have HC := Lib.hid hcut
              have HL2 := Lib.hid (And.intro hl (And.intro hp hi2))
              have hl5 := hp.length_eq
              have hf5 := H.out.few
              have hi5 : i2 < 512 := by omega
              clear q0 q1 q2 g1 g2 g3 g4 z2 z3 z4 hcut hl hp hF2 cF2
              go_wp2
              go_region_with (first | (go_at_call 27; refine (fix_any R g cap i2 D (updZ fr x T) l _ (by omega) (HL2.out.1.below (Below.refl _ _).drew) hi2).mono ?_; rintro e w3 ⟨rfl, l3, hg3⟩))
              all_goals
                go_wp2
                go_roundg (m - (k + 1))
                case measure => omega
                case rel =>
                  refine ⟨k + 1, by omega, rfl, by rw [HA1.out.2.2], ⟨_, ?_, HA1.out.1, HA1.out.2.1⟩⟩
                  rw [HST.out.1]
                  exact (HC.out.below (Below.refl _ _).drew).fix (HL2.out.1.below (Below.refl _ _).drew) HL2.out.2.1 hg3
    · have hkm : us.take k = us := by rw [List.take_of_length_le]; have := H.out.len; omega
      have hcm := keptL_le C us k
      rw [hkm] at hcm HA
      rw [hkm]
      have hI := hinv
      rw [hkm] at hI
      obtain ⟨c, hcl⟩ : ∃ c, (keptL C us).length = c := ⟨_, rfl⟩
      obtain ⟨l, hl, hp⟩ := hI.heap
      obtain ⟨FR, hFR, _⟩ := hl.rv
      have cR := hI.unc
      have zR := hFR.frozen 1
      have nRU := row_ne hFR hI.arr (by decide)
      have nUR : U ≠ R := Ne.symm nRU
      have HI := Lib.hid hI
      rw [hcl] at hcm HA ⊢
      have hke : k = m := by omega
      clear hinv hA1 hA2 hI hl hp hFR hkm
      obtain ⟨w4, hrun, A4, hI4, hA4⟩ : ∃ w4, (Builtin.clear_ #[32] 0 #[.slice (some (if c = m then ⟨U, 0, none⟩ else ⟨U, c, none⟩)) (m - c) (m - c)]).run Yba.prog wr = .ok (.tuple #[]) w4 ∧
          ∃ A4, CInv (w.alloc (.cells (tm now) 27)) R g cap U m D l0 A4 (foldZ D C now fr0 us) w4 ∧ ∀ j, A4 j = if c ≤ j ∧ j < c + (m - c) then .pointer none else A j := by
        by_cases hc : c = m
        · refine ⟨wr, ?_, A, HI.out, fun j => by rw [if_neg (by omega)]⟩
          subst hc
          rw [Nat.sub_self]
          exact run_clear_none _ _ _ _
        · rw [if_neg hc]
          exact ⟨_, run_clear_ptrs wr U c (m - c) _ m 0 A HI.out.arr (by omega) (by omega), HI.out.clear (m - c) c A wr⟩
      obtain ⟨l, hl, hp⟩ := hI4.heap
      obtain ⟨FR4, hFR4, _⟩ := hl.rv
      have cR4 := hI4.unc
      have zR4 := hFR4.frozen 1
      have HF : Hid (let W := w4.setCell ⟨R, 1, none⟩ (.slice (some ⟨U, 0, none⟩) c m)
        (∃ l, HIs W R g cap D (foldZ D C now fr0 us) l ∧ l.Perm l0) ∧ W.cell? ⟨R, 1, none⟩ = some (.slice (some ⟨U, 0, none⟩) c m) ∧
        (∃ A, W.rowIs U 46 m A ∧ (∀ k, k < c → A k = .pointer (some ⟨(keptL C us).getD k 0, 0, none⟩)) ∧ ∀ k, c ≤ k → k < m → A k = .pointer none) ∧
        Kept (fun k => k = R ∨ k = g ∨ k = U ∨ k ∈ l0) w W) := by
        refine Lib.hid ⟨⟨l, (hl.uncounted _).1, hp⟩, (hl.uncounted _).2, ⟨A4, hI4.arr.setOther (row_ne hI4.arr hFR4 (by decide)) _, fun j hj => ?_, fun j h1 h2 => ?_⟩, ?_⟩
        · rw [hA4 j, if_neg (by omega), HA.out.1 j hj]
        · rw [hA4 j, if_pos (by omega)]
        · exact (((Kept.of_below (X := fun k => k = R ∨ k = g ∨ k = U ∨ k ∈ l0) (bal (Below.refl _ w) (.cells (tm now) 27))).trans hI4.kept (fun k _ hk => .inr hk))).setCell (a := ⟨R, 1, none⟩) (.inl rfl) _
      clear hl hp hFR4 hI4 hA4
      by_cases hc : c = m
      · rw [if_pos hc] at hrun
        subst hc
        rw [Nat.sub_self] at hrun
        go_wp2
        go_end0
        exact ⟨rfl, HF.out⟩
      · rw [if_neg hc] at hrun
        have hcn : 0 < m - c := by omega
        go_wp2
        go_end0
        exact ⟨rfl, HF.out⟩
end Go.Proofs.Ybulkbyaq
