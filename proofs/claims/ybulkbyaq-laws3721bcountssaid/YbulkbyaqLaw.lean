/-
  The walk of LawS3721BCounts.
-/
import Derived.Test.YbulkbyaqLawPlain3
import Derived.Deep.DeepCutAuto
namespace Go.Proofs.Ybulkbyaq
open Go.RowKit

set_option maxRecDepth 100000 in
set_option maxHeartbeats 3200000 in
theorem bcounts_any (a0 : Option Addr) (n cap0 : Nat) (a1 : Option Addr) (m cap1 : Nat) (X : BArgs) (now : Int) (w : World) (hn : 0 < n) (hn5 : n ≤ 512) (hm5 : m ≤ 512) (hG : GrpAt w a0 n X) (hU : UncAt w a1 m X) (hnow : In64 now) :
    Calls Yba.prog 3 #[.slice a0 n cap0, .slice a1 m cap1, .int .i64 now] w fun e w' => e = .returned (.bool true) ∧ Below w.heap.size w w' := by
  have HG := Lib.hid hG
  have HU := Lib.hid hU
  have d1 : ¬ (512 < (n : Int)) := by omega
  have d2 : ¬ (512 < (m : Int)) := by omega
  have d3 : ((n : Int) == 0) = false := by rw [beq_eq_false_iff_ne]; omega
  have hmk : ∀ w, (Instr.makeSlice 30 (.int .i64 (n : Int)) (.int .i64 (n : Int))).run Yba.prog w = .ok (.slice (some ⟨w.heap.size, 0, none⟩) n n) (w.alloc (.cells (madeCells #[.pointer none] n) 38)) := fun w => run_make_row' 30 38 (.pointer none) 8 Yba.underlying30 info38 rfl .i64 .i64 n (by omega) (by omega) w
  have hmt := fun w => run_make_times n hn5 w
  have hmu : ∀ w, (Instr.makeSlice 32 (.int .i64 (m : Int)) (.int .i64 (m : Int))).run Yba.prog w = .ok (.slice (some ⟨w.heap.size, 0, none⟩) m m) (w.alloc (.cells (madeCells #[.pointer none] m) 46)) := fun w => run_make_row' 32 46 (.pointer none) 8 Yba.underlying32 info46 rfl .i64 .i64 m (by omega) (by omega) w
  clear hG hU
  go_enter Yba.func3, Yba.ntmps3
  go_wp2_with fail
  refine (btime1 now _ hnow).mono ?_
  rintro e w1 ⟨rfl, hb1⟩
  have HB1 := Lib.hid hb1
  clear hb1
  go_wp2
  go_loopg [11] n (fun gh iv wr => ∃ (i : Nat) (gs : List Nat) (D : GData) (fr : Nat → Int) (v : Value), i + gh = n ∧ iv = .int .i64 (i : Nat) ∧ L1 w w1.heap.size n X now i gs D fr v wr)
  case atStart =>
    refine ⟨0, [], ⟨fun _ => false, fun _ => 0, fun _ => 0, fun _ => 0, fun _ => 0, fun _ => 0⟩, fun _ => 0, .slice none 0 0, by omega, rfl, ?_⟩
    have r0 := row3 w1 (.int .u64 (now % 1000000000)) (.int .i64 (now / 1000000000)) (.pointer none) 27
    have r1 := World.rowIs_alloc (w1.alloc (.cells #[.int .u64 (now % 1000000000), .int .i64 (now / 1000000000), .pointer none] 27)) #[.slice none 0 0, .slice none 0 0] 34 (fun k => if k = 0 then .slice none 0 0 else .slice none 0 0) (fun i hi => match i, hi with | 0, _ => rfl | 1, _ => rfl)
    have r2 := World.rowIs_made ((w1.alloc (.cells #[.int .u64 (now % 1000000000), .int .i64 (now / 1000000000), .pointer none] 27)).alloc (.cells #[.slice none 0 0, .slice none 0 0] 34)) (.pointer none) n 38
    obtain ⟨F3, r3⟩ := rowIs_times (((w1.alloc (.cells #[.int .u64 (now % 1000000000), .int .i64 (now / 1000000000), .pointer none] 27)).alloc (.cells #[.slice none 0 0, .slice none 0 0] 34)).alloc (.cells (madeCells #[.pointer none] n) 38)) n
    simp only [World.size_alloc] at r1 r2 r3
    refine ⟨?_, HB1.out.size, by simp, rfl, ((r0.alloc _).alloc _).alloc _, (r1.alloc _).alloc _, World.ownsRow_nil _ _ _ _, ⟨_, r2.alloc _, fun j hj => absurd hj (Nat.not_lt_zero _)⟩, ⟨F3, r3, fun j hj => absurd hj (Nat.not_lt_zero _)⟩, fun j hj => absurd hj (Nat.not_lt_zero _), List.nodup_nil, fun x hx => absurd hx List.not_mem_nil⟩
    exact bal (bal (bal (bal HB1.out _) _) _) _
  case round =>
    obtain ⟨i, gs, D, fr, v, hi, rfl, hl1⟩ := hrel
    have HL1 := Lib.hid hl1
    by_cases hlt : i < n
    · obtain ⟨b, off, rfl, c0, c1, c2, c3, c4, e0, e1, e2, e3⟩ := HG.out i hlt
      have g0 := hl1.bel.cell (p := ⟨b, off + i * 5, none⟩) (lt_of_cell c0)
      have g1 := hl1.bel.cell (p := ⟨b, off + i * 5 + 1, none⟩) (lt_of_cell c0)
      have g2 := hl1.bel.cell (p := ⟨b, off + i * 5 + 2, none⟩) (lt_of_cell c0)
      have g3 := hl1.bel.cell (p := ⟨b, off + i * 5 + 3, none⟩) (lt_of_cell c0)
      have g4 := hl1.bel.cell (p := ⟨b, off + i * 5 + 4, none⟩) (lt_of_cell c0)
      rw [c0] at g0
      rw [c1] at g1
      rw [c2] at g2
      rw [c3] at g3
      rw [c4] at g4
      clear hl1 c0 c1 c2 c3 c4
      go_wp2
      have HLg := Lib.hid (HL1.out.below (bal (Below.refl _ wr) (.cells #[.int .i64 (X.mg i), .int .i64 (X.fz i), .int .i64 (X.pa i), .int .i64 (X.du i), .bool (X.hs i)] 37)))
      have q0 : (wr.alloc (.cells #[.int .i64 (X.mg i), .int .i64 (X.fz i), .int .i64 (X.pa i), .int .i64 (X.du i), .bool (X.hs i)] 37)).cell? ⟨wr.heap.size, 0, none⟩ = some (.int .i64 (X.mg i)) := by simp [go_sem]
      have q1 : (wr.alloc (.cells #[.int .i64 (X.mg i), .int .i64 (X.fz i), .int .i64 (X.pa i), .int .i64 (X.du i), .bool (X.hs i)] 37)).cell? ⟨wr.heap.size, 1, none⟩ = some (.int .i64 (X.fz i)) := by simp [go_sem]
      have q2 : (wr.alloc (.cells #[.int .i64 (X.mg i), .int .i64 (X.fz i), .int .i64 (X.pa i), .int .i64 (X.du i), .bool (X.hs i)] 37)).cell? ⟨wr.heap.size, 2, none⟩ = some (.int .i64 (X.pa i)) := by simp [go_sem]
      have q3 : (wr.alloc (.cells #[.int .i64 (X.mg i), .int .i64 (X.fz i), .int .i64 (X.pa i), .int .i64 (X.du i), .bool (X.hs i)] 37)).cell? ⟨wr.heap.size, 3, none⟩ = some (.int .i64 (X.du i)) := by simp [go_sem]
      have q4 : (wr.alloc (.cells #[.int .i64 (X.mg i), .int .i64 (X.fz i), .int .i64 (X.pa i), .int .i64 (X.du i), .bool (X.hs i)] 37)).cell? ⟨wr.heap.size, 4, none⟩ = some (.bool (X.hs i)) := by simp [go_sem]
      clear g0 g1 g2 g3 g4
      generalize wr.alloc (.cells #[.int .i64 (X.mg i), .int .i64 (X.fz i), .int .i64 (X.pa i), .int .i64 (X.du i), .bool (X.hs i)] 37) = wg at HLg q0 q1 q2 q3 q4 ⊢
      generalize wr.heap.size = gb at q0 q1 q2 q3 q4 ⊢
      have lg := lt_of_cell q0
      clear HL1
      go_cut [13] (fun qv wc => ∃ q, qv = .pointer (some ⟨q, 0, none⟩) ∧ L1 w w1.heap.size n X now i gs D fr v wc ∧ (q ∉ gs ∧ w.heap.size ≤ q) ∧ GRow wc q X i ∧ wc.cell? ⟨gb, 3, none⟩ = some (.int .i64 (X.du i)) ∧ wc.cell? ⟨gb, 4, none⟩ = some (.bool (X.hs i)))
      case first =>
        go_region_held3 (fun w0 => w0.cell? ⟨gb, 0, none⟩ = some (.int .i64 (X.mg i)) ∧ w0.cell? ⟨gb, 1, none⟩ = some (.int .i64 (X.fz i)) ∧ w0.cell? ⟨gb, 2, none⟩ = some (.int .i64 (X.pa i))) (simp [go_sem, World.cell?_alloc_past, *])
          (first | (go_at_call 6; refine (btime1 _ _ (by assumption)).mono ?_
                    rintro e w2 ⟨rfl, hb⟩
                    have hB : Below wg.heap.size wg w2 := by first | exact btrans hB hb | exact btrans (Below.refl _ wg).drew hb
                    have h11 := Nat.lt_of_lt_of_le lg hB.size
                    have h12 := cell_kept hB q0
                    have h13 := cell_kept hB q1
                    have h14 := cell_kept hB q2))
        all_goals
          go_wp2
          go_meet
          case rel =>
            refine ⟨w2.heap.size, rfl, HLg.out.below (bal hB _), ⟨fun hm => ?_, Nat.le_trans HLg.out.bel.size hB.size⟩, ⟨_, row_of_cells (heap_alloc_new _ _), rfl, rfl, rfl, rfl, rfl, rfl, rfl, rfl, rfl, rfl⟩, cell_kept (bal hB _) q3, cell_kept (bal hB _) q4⟩
            obtain ⟨j, hj, e⟩ := mem_at hm
            have h1 := (HLg.out.groups j (by rw [← HLg.out.len]; exact hj)).1.lt
            have h2 := hB.size
            omega
      case rest =>
        obtain ⟨q, rfl, hl1, hnew, hgr, k3, k4⟩ := hcut
        have HL1 := Lib.hid (And.intro hl1 (And.intro hnew hgr))
        have lg' := lt_of_cell k3
        clear hl1 hnew hgr q0 q1 q2 q3 q4 HLg lg
        obtain ⟨F, hF, f0, f1, f2, f3, f4, f5, f6, f7, f10, f11⟩ := HL1.out.2.2
        have y0 := (hF.cell (i := 0) (by omega)).trans (by rw [f0])
        have z0 := hF.frozen 0
        have lq := hF.lt
        have lq1 : q < wc.heap.size + 1 := by omega
        clear hF f0 f1 f2 f3 f4 f5 f6 f7 f10 f11
        cases hh : X.hs i
        case' false =>
          rw [hh] at k4
          go_upto_region 17 with fail
          have HM := Lib.hid (HL1.out.1.mid_false HL1.out.2.1.1 HL1.out.2.1.2 HL1.out.2.2 hh)
          generalize addG D q 0 0 X i = D' at HM
          clear HL1 y0 z0 k3 k4 lg' lq lq1
          refine (fun (f : ∀ wx, Hid (L1mid w w1.heap.size n X now i gs D fr v q D' wx) → Code.wp _ _ _ _ wx) => f _ HM) ?_
          intro wx HM
        case' true =>
          rw [hh] at k4
          go_wp2_with fail
          refine (btime1 (X.du i) _ e3).mono ?_
          rintro e w3 ⟨rfl, hb3⟩
          have y3 := cell_kept hb3 y0
          have z3 := (World.frozen?_of_block (a := ⟨q, 0, none⟩) (hb3.block q lq)).trans z0
          have l3 := lt_of_cell y3
          have l4 : q < w3.heap.size + 1 := by omega
          have HL3 := Lib.hid (HL1.out.1.below hb3)
          have hg3 : GRow w3 q X i := by
            obtain ⟨F, hF, f0⟩ := HL1.out.2.2
            exact ⟨F, below_rowIs hb3 hF, f0⟩
          have HG3 := Lib.hid hg3
          clear hb3 hg3 y0 z0 lq lq1 lg' k3 k4
          go_upto_region 17 with fail
          refine (fun (f : ∀ wx, L1mid w w1.heap.size n X now i gs D fr v q (addG D q (w3.heap.size + 1) w3.heap.size X i) wx → Code.wp _ _ _ _ wx) => f _ (HL3.out.mid_true HL1.out.2.1.1 HL1.out.2.1.2 HG3.out hh rfl rfl rfl rfl)) ?_
          intro wx hM
          have HM := Lib.hid hM
          clear hM
          generalize addG D q (w3.heap.size + 1) w3.heap.size X i = D' at HM
          clear HL1 y3 z3 l3 l4 HL3 HG3
        all_goals
          obtain ⟨FQ, hFQ, fq⟩ := HM.out.l1.qs
          obtain ⟨FF, hFF, ff⟩ := HM.out.l1.fm
          obtain ⟨G, hGr, cG⟩ := HM.out.grp.row
          have hRR := HM.out.l1.rr
          have pa1 : wx.cell? ⟨w1.heap.size + 1 + 1, i, none⟩ = some (FQ i) := hFQ.cell hlt
          have pa2 : wx.frozen? ⟨w1.heap.size + 1 + 1, i, none⟩ = false := hFQ.frozen i
          have pa3 : wx.cell? ⟨w1.heap.size + 1 + 1 + 1, i * 3, none⟩ = some (FF (i * 3)) := hFF.cell (by omega)
          have pa4 : wx.cell? ⟨w1.heap.size + 1 + 1 + 1, i * 3 + 1, none⟩ = some (FF (i * 3 + 1)) := hFF.cell (by omega)
          have pa5 : wx.cell? ⟨w1.heap.size + 1 + 1 + 1, i * 3 + 2, none⟩ = some (FF (i * 3 + 2)) := hFF.cell (by omega)
          have pa6 : wx.frozen? ⟨w1.heap.size + 1 + 1 + 1, i * 3, none⟩ = false := hFF.frozen _
          have pa7 : wx.frozen? ⟨w1.heap.size + 1 + 1 + 1, i * 3 + 1, none⟩ = false := hFF.frozen _
          have pa8 : wx.frozen? ⟨w1.heap.size + 1 + 1 + 1, i * 3 + 2, none⟩ = false := hFF.frozen _
          have pa9 : wx.cell? ⟨w1.heap.size + 1, 0, none⟩ = some v := (hRR.cell (by omega)).trans (by simp)
          have pa10 : wx.frozen? ⟨w1.heap.size + 1, 0, none⟩ = false := hRR.frozen _
          have pa11 : wx.cell? ⟨q, 2, none⟩ = some (.int .u64 (X.fz i % 1000000000)) := (hGr.cell (by omega)).trans (by rw [cG.f0])
          have pa12 : wx.cell? ⟨q, 3, none⟩ = some (.int .i64 (X.fz i / 1000000000)) := (hGr.cell (by omega)).trans (by rw [cG.f1])
          have pa13 : wx.cell? ⟨q, 4, none⟩ = some (.pointer none) := (hGr.cell (by omega)).trans (by rw [cG.f2])
          have n1 : q ≠ w1.heap.size + 1 + 1 := row_ne hGr hFQ (by decide)
          have n2 : q ≠ w1.heap.size + 1 + 1 + 1 := row_ne hGr hFF (by decide)
          have n3 : q ≠ w1.heap.size + 1 := row_ne hGr hRR (by decide)
          have n4 := Ne.symm n1
          have n5 := Ne.symm n2
          have n6 := Ne.symm n3
          have lR : w1.heap.size + 1 < wx.heap.size := hRR.lt
          have lR1 : w1.heap.size + 1 < wx.heap.size + 1 := by omega
          have HR := Lib.hid (And.intro hFQ (And.intro fq (And.intro hFF (And.intro ff hRR))))
          obtain ⟨i38, hi38, hzz⟩ := Option.map_eq_some_iff.1 info38
          simp only [Prod.mk.injEq] at hzz
          have HZ := Lib.hid (And.intro hi38 hzz)
          clear hFQ fq hFF ff hGr cG hRR hi38 hzz
          go_upto_region 19 with fail
          have hsz := HM.out.l1.size
          have ho2 := own_set_lt (own_set_lt (own_set_lt (own_set_lt HM.out.l1.own (q := w1.heap.size + 1 + 1) (by omega) i (ptr q)) (q := w1.heap.size + 1 + 1 + 1) (by omega) (i * 3) (.int .u64 (X.fz i % 1000000000))) (q := w1.heap.size + 1 + 1 + 1) (by omega) (i * 3 + 1) (.int .i64 (X.fz i / 1000000000))) (q := w1.heap.size + 1 + 1 + 1) (by omega) (i * 3 + 2) (.pointer none)
          have HO2 := Lib.hid (fun o => ho2.alloc o)
          clear ho2 pa1 pa2 pa3 pa4 pa5 pa6 pa7 pa8 pa11 pa12 pa13
          go_wp2_with (first | (at_builtin; refine wpList_append_own _ rfl _ _ 31 rfl (w1.heap.size + 4) 38 i38 (.pointer none) 1 8 Yba.underlying31 HZ.out.1 HZ.out.2.1 HZ.out.2.2.1 HZ.out.2.2.2 rfl (by decide) _ _ _ rfl (HO2.out _) ⟨wx.heap.size, 0, none⟩ 1 1 [.pointer (some ⟨q, 0, none⟩)] rfl rfl ?c1 ?c2 ?c3 ?c4 ?c5 ?_))
          case c1 =>
            intro j u hj
            match j, hj with
            | 0, hj =>
              simp at hj
              subst hj
              simp [go_sem]
          case c2 => intro u hu; simp at hu; subst hu; rfl
          case c3 => unfold maxLen; omega
          case c4 => omega
          case c5 => simp; omega
          intro v' w5 hown' hg _
          obtain ⟨hcl, hr5⟩ := HM.out.close _ hown' hg
          have pb1 : w5.cell? ⟨w1.heap.size + 1, 0, none⟩ = some v := (hr5.cell (by omega)).trans (by simp)
          have pb2 : w5.frozen? ⟨w1.heap.size + 1, 0, none⟩ = false := hr5.frozen _
          obtain ⟨g', cap', hv⟩ : ∃ g' cap', v' = .slice (some ⟨g', 0, none⟩) (i + 1) cap' := by
            rcases hown'.2 with ⟨_, h0⟩ | ⟨g', cap', _, hv, _⟩
            · omega
            · exact ⟨g', cap', hv⟩
          subst hv
          have HCL := Lib.hid hcl
          clear hcl hr5 hown' hg pa9 pa10
          go_wp2
          go_roundg (n - (i + 1))
          case measure => omega
          case rel => exact ⟨i + 1, gs ++ [q], D', updZ fr q (X.fz i), _, by omega, rfl, HCL.out⟩
    · have hin : i = n := by omega
      subst hin
      obtain ⟨g, cap, rfl, hH, hgg, hsa⟩ := hl1.toHeap hn
      obtain ⟨B, hB⟩ : ∃ B, w1.heap.size = B := ⟨_, rfl⟩
      rw [hB] at hl1 hH hgg
      rw [hB]
      obtain ⟨B2, hB2⟩ : ∃ B2, wr.heap.size = B2 := ⟨_, rfl⟩
      have ha := hl1.below (bal (bal (Below.refl _ wr) (.cells (madeCells #[.pointer none] m) 46)) (.cells (madeCells #[.pointer none] m) 46))
      have hHa := hH.below (bal (bal (Below.refl _ wr) (.cells (madeCells #[.pointer none] m) 46)) (.cells (madeCells #[.pointer none] m) 46))
      have r1 := World.rowIs_made wr (.pointer none) m 46
      have r2 := World.rowIs_made (wr.alloc (.cells (madeCells #[.pointer none] m) 46)) (.pointer none) m 46
      rw [World.size_alloc, hB2] at r2
      rw [hB2] at r1
      have HLa : Hid (L2a w B B2 g cap i X now gs D fr [] ⟨fun _ => 0, fun _ => none⟩ ((wr.alloc (.cells (madeCells #[.pointer none] m) 46)).alloc (.cells (madeCells #[.pointer none] m) 46)) ∧
          L2b B B2 i m 0 gs [] (keptL ⟨fun _ => 0, fun _ => none⟩ []) (foldZ D ⟨fun _ => 0, fun _ => none⟩ now fr []) (.slice none 0 0) ((wr.alloc (.cells (madeCells #[.pointer none] m) 46)).alloc (.cells (madeCells #[.pointer none] m) 46))) := by
        have hs := hl1.size
        refine Lib.hid ⟨⟨ha.bel, ha.base, by omega, by simp [hB2], ha.len, ha.box, ha.rr, hHa, ha.qs, fun s hs => absurd hs List.not_mem_nil, fun j hj => (ha.groups j hj).2, fun x hx hh => hB2 ▸ hsa x hx hh, hgg, ha.ge⟩, ⟨ha.fm, ⟨_, r1.alloc _⟩, ⟨_, r2, fun j hj => absurd hj (Nat.not_lt_zero _)⟩, World.ownsRow_nil _ _ _ _⟩⟩
      have hnd := Lib.hid hH.nodup
      clear hl1 HL1 hH hsa hgg ha hHa r1 r2 HB1 hmk hmt
      go_wp2
      go_loopg [17, 18] m (fun gh kv iv wr => ∃ (k : Nat) (us : List Nat) (C : UData), k + gh = m ∧ iv = .int .i64 (k : Nat) ∧ us.length = k ∧ L2a w B B2 g cap i X now gs D fr us C wr ∧ L2b B B2 i m k gs us (keptL C us) (foldZ D C now fr us) kv wr)
      case atStart => exact ⟨0, [], ⟨fun _ => 0, fun _ => none⟩, by omega, rfl, rfl, HLa.out.1, HLa.out.2⟩
      case round =>
        obtain ⟨k, us, C, hk, rfl, hul, hla, hlb⟩ := hrel
        clear HLa
        have HA := Lib.hid hla
        have HB := Lib.hid hlb
        by_cases hkm : k < m
        · obtain ⟨ub, uoff, hua, c0, c1, c2, e0, e1⟩ := HU.out k hkm
          subst hua
          obtain ⟨gi, hgi⟩ : ∃ gi, X.ug k % i = gi := ⟨_, rfl⟩
          have hgn : gi < i := hgi ▸ Nat.mod_lt _ hn
          obtain ⟨gb, goff, hga, k0, k1, k2, k3, k4, e2, e3, e4, e5⟩ := HG.out gi hgn
          subst hga
          obtain ⟨FQ, hFQ, fq⟩ := hla.qs
          obtain ⟨x, hx⟩ : ∃ x, gs.getD gi 0 = x := ⟨_, rfl⟩
          have hxm : x ∈ gs := hx ▸ getD_mem gs gi (by rw [hla.len]; exact hgn)
          have pq : wr.cell? ⟨B + 1 + 1, gi, none⟩ = some (.pointer (some ⟨x, 0, none⟩)) := (hFQ.cell hgn).trans (by rw [fq gi hgn, hx])
          have lq := lt_of_cell pq
          have p0 := (hla.bel.cell (p := ⟨ub, uoff + k * 3, none⟩) (lt_of_cell c0)).trans c0
          have p1 := (hla.bel.cell (p := ⟨ub, uoff + k * 3 + 1, none⟩) (lt_of_cell c0)).trans c1
          have p2 := (hla.bel.cell (p := ⟨ub, uoff + k * 3 + 2, none⟩) (lt_of_cell c0)).trans c2
          have g0 := (hla.bel.cell (p := ⟨gb, goff + gi * 5, none⟩) (lt_of_cell k0)).trans k0
          have g1 := (hla.bel.cell (p := ⟨gb, goff + gi * 5 + 1, none⟩) (lt_of_cell k0)).trans k1
          have g2 := (hla.bel.cell (p := ⟨gb, goff + gi * 5 + 2, none⟩) (lt_of_cell k0)).trans k2
          have g3 := (hla.bel.cell (p := ⟨gb, goff + gi * 5 + 3, none⟩) (lt_of_cell k0)).trans k3
          have g4 := (hla.bel.cell (p := ⟨gb, goff + gi * 5 + 4, none⟩) (lt_of_cell k0)).trans k4
          have l1 := lt_of_cell p0
          have l2 := lt_of_cell g0
          have l3 : B + 1 + 1 < wr.heap.size + 1 := by omega
          have l4 : gb < wr.heap.size + 1 := by omega
          have l5 : gb < wr.heap.size + 1 + 1 := by omega
          have hrem : ((X.ug k : Nat) : Int).tmod (i : Int) = (gi : Int) := by rw [← hgi]; rfl
          have di : ¬ ((i : Int) = 0) := by omega
          have hug : ((X.ug k : Nat) : Int) < 256 := by omega
          have hug0 : (0 : Int) ≤ ((X.ug k : Nat) : Int) := by omega
          clear hla hlb hFQ fq c0 c1 c2 k0 k1 k2 k3 k4
          go_upto_region 31 with fail
          refine (fun (f : ∀ wx, L2m wr (wr.heap.size + 1) wr.heap.size (wr.heap.size + 1 + 1) x X k gi wx → Code.wp _ _ _ _ wx) => f _ (mid2 wr x X k gi rfl rfl rfl)) ?_
          intro wx hm
          have HX := Lib.hid (And.intro hx (And.intro hxm hgi))
          clear pq lq p0 p1 p2 g0 g1 g2 g3 g4 l1 l2 l3 l4 l5 hrem di hug hug0 hx hxm hgi
          generalize wr.heap.size + 1 + 1 = gb2 at hm ⊢
          generalize wr.heap.size + 1 = s at hm ⊢
          generalize hub : wr.heap.size = ub2 at hm ⊢
          have HM := Lib.hid hm
          have u1 := hm.u1
          have u2 := hm.u2
          have g2 := hm.g2
          have g3 := hm.g3
          have g4 := hm.g4
          clear hm hub
          obtain ⟨M, hM⟩ : ∃ M, foldZ D C now fr us = M := ⟨_, rfl⟩
          have hsu : s ∉ us := fun hm => by
            have h1 := (HA.out.slots s hm).1.lt
            have h2 := HM.out.ge
            omega
          have HSU := Lib.hid (And.intro hsu hM)
          clear hsu hM
          cases hc : X.uc k
          case' true =>
            rw [hc] at u1
            go_wp2_with fail
            refine (btime1 (X.ua k) _ e1).mono ?_
            rintro e w3 ⟨rfl, hb3⟩
            obtain ⟨S, hS, s12, s38⟩ := HM.out.srow
            have hS4 := (below_rowIs hb3 hS).alloc (.cells #[.int .u64 (X.ua k % 1000000000), .int .i64 (X.ua k / 1000000000), .pointer none] 27)
            have v38 := (hS4.cell (i := 38) (by omega)).trans (by rw [s38])
            have HST := Lib.hid (store_some s w3.heap.size _ (.int .u64 (X.ua k % 1000000000)) _ v38 (hS4.frozen 38) (by simp [go_sem]))
            have HB3 := Lib.hid (And.intro (btrans HM.out.bel hb3) (And.intro hS4 s12))
            clear hb3 hS s12 s38 hS4 v38 u1 u2 g2 g3 g4
            go_wp2_with fail
            refine HST.out.mono ?_
            rintro e w4 ⟨rfl, hw4⟩
            have hB4 : Below wr.heap.size wr w4 := hw4 ▸ bset (bal HB3.out.1 _) HM.out.ge _
            have hla := HA.out.below hB4
            have hlb := HB.out.below hB4
            rw [HSU.out.2] at hlb
            have hr4 : w4.rowIs s 62 39 (fun j => if j = 38 then ptr w3.heap.size else S j) := hw4 ▸ HB3.out.2.1.set 38 _
            have ht4 : w4.rowIs w3.heap.size 27 3 (fun i => if i = 0 then .int .u64 (X.ua k % 1000000000) else if i = 1 then .int .i64 (X.ua k / 1000000000) else .pointer none) := by
              rw [hw4]
              have r := row3 w3 (.int .u64 (X.ua k % 1000000000)) (.int .i64 (X.ua k / 1000000000)) (.pointer none) 27
              exact r.setOther (row_ne r HB3.out.2.1 (by decide)) _
            have htb : B2 ≤ w3.heap.size := by
              have h1 := HA.out.size
              have h2 := HB3.out.1.size
              omega
            have h12 : (fun j => if j = 38 then ptr w3.heap.size else S j) 12 = ptr x := by simpa using HB3.out.2.2
            have h38 : (fun j => if j = 38 then ptr w3.heap.size else S j) 38 = ptr w3.heap.size := by simp
            generalize (fun j => if j = 38 then ptr w3.heap.size else S j) = S4 at hr4 h12 h38
            generalize w3.heap.size = tb at hr4 ht4 htb h38 ⊢
            have HL4 := Lib.hid (And.intro hla (And.intro hlb (And.intro hr4 (And.intro h12 (And.intro h38 (And.intro ht4 htb))))))
            obtain ⟨FF, hFF, ff⟩ := hlb.fm
            obtain ⟨f0, f1, f2⟩ := ff gi hgn
            simp only [HX.out.1] at f0 f1 f2
            have q0 : w4.cell? ⟨B + 1 + 1 + 1, gi * 3, none⟩ = some (.int .u64 (M x % 1000000000)) := (hFF.cell (by omega)).trans (by rw [f0])
            have q1 : w4.cell? ⟨B + 1 + 1 + 1, gi * 3 + 1, none⟩ = some (.int .i64 (M x / 1000000000)) := (hFF.cell (by omega)).trans (by rw [f1])
            have q2 : w4.cell? ⟨B + 1 + 1 + 1, gi * 3 + 2, none⟩ = some (.pointer none) := (hFF.cell (by omega)).trans (by rw [f2])
            have z0 : w4.frozen? ⟨B + 1 + 1 + 1, gi * 3, none⟩ = false := hFF.frozen _
            have z1 : w4.frozen? ⟨B + 1 + 1 + 1, gi * 3 + 1, none⟩ = false := hFF.frozen _
            have z2 : w4.frozen? ⟨B + 1 + 1 + 1, gi * 3 + 2, none⟩ = false := hFF.frozen _
            have t0 : w4.cell? ⟨tb, 0, none⟩ = some (.int .u64 (X.ua k % 1000000000)) := (ht4.cell (by omega)).trans (by simp)
            have t1 : w4.cell? ⟨tb, 1, none⟩ = some (.int .i64 (X.ua k / 1000000000)) := (ht4.cell (by omega)).trans (by simp)
            have t2 : w4.cell? ⟨tb, 2, none⟩ = some (.pointer none) := (ht4.cell (by omega)).trans (by simp)
            have lx : B + 1 + 1 + 1 < w4.heap.size := hFF.lt
            have lx1 : B + 1 + 1 + 1 < w4.heap.size + 1 := by omega
            have lx2 : B + 1 + 1 + 1 < w4.heap.size + 1 + 1 := by omega
            have lt := ht4.lt
            have lt1 : tb < w4.heap.size + 1 := by omega
            have lt2 : tb < w4.heap.size + 1 + 1 := by omega
            obtain ⟨T1, hT1⟩ : ∃ T1, X.ua k + X.mg gi = T1 := ⟨_, rfl⟩
            obtain ⟨T, hT⟩ : ∃ T, laterZ (M x) T1 = T := ⟨_, rfl⟩
            have HT := Lib.hid (And.intro hT1 hT)
            clear hw4 hB4 hla hlb hr4 ht4 htb h12 h38 hFF ff f0 f1 f2 hT1 hT HST HB3
            go_upto_region 34 with fail
            go_cut [160] (fun _ wc => L2a w B B2 g cap i X now gs D fr (us ++ [s]) (addU C s x (some (tb, X.ua k))) wc ∧ L2b B B2 i m k gs us (keptL (addU C s x (some (tb, X.ua k))) (us ++ [s])) (foldZ D (addU C s x (some (tb, X.ua k))) now fr (us ++ [s])) u17 wc)
            case first =>
              go_region_with
                (first | (go_at_call 9; refine (add1 (X.ua k) (X.mg gi) T1 HT.out.1 _ e1.1 e1.2 e2.1 e2.2).mono ?_; rintro e w2 ⟨rfl, rfl⟩)
                       | (go_at_call 8; refine (blater1 (M x) T1 T HT.out.2 _).mono ?_
                          rintro e w2 ⟨rfl, hb⟩
                          have hB : Below w4.heap.size w4 w2 := btrans (bal (bal (Below.refl _ w4) _) _).drew hb
                          have h13 := cell_kept hB q0
                          have h14 := cell_kept hB q1
                          have h15 := cell_kept hB q2
                          have h19 := (World.frozen?_of_block (a := ⟨B + 1 + 1 + 1, gi * 3, none⟩) (hB.block _ lx)).trans z0
                          have h20 := (World.frozen?_of_block (a := ⟨B + 1 + 1 + 1, gi * 3 + 1, none⟩) (hB.block _ lx)).trans z1
                          have h21 := (World.frozen?_of_block (a := ⟨B + 1 + 1 + 1, gi * 3 + 2, none⟩) (hB.block _ lx)).trans z2))
              all_goals
                go_wp2
                go_meet
                case rel => exact close_called HL4.out.1 HL4.out.2.1 HL4.out.2.2.1 HL4.out.2.2.2.1 HL4.out.2.2.2.2.1 HL4.out.2.2.2.2.2.1 HL4.out.2.2.2.2.2.2 HSU.out.1 HSU.out.2 HX.out.1 HX.out.2.1 hgn e1 HT.out.1 HT.out.2 hB
            case' rest =>
              clear q0 q1 q2 z0 z1 z2 t0 t1 t2 lx lx1 lx2 lt lt1 lt2 HL4
              have HE := Lib.hid hcut
              clear hcut
              generalize addU C s x (some (tb, X.ua k)) = C' at HE
              go_upto_region 42 with fail
              refine (fun (f : ∀ wz, Hid (L2a w B B2 g cap i X now gs D fr (us ++ [s]) C' wz ∧ L2b B B2 i m k gs us (keptL C' (us ++ [s])) (foldZ D C' now fr (us ++ [s])) u17 wz) → Code.wp _ _ _ _ wz) => f _ HE) ?_
              clear HE
              intro wz HE
          case' false =>
            rw [hc] at u1
            obtain ⟨i46, hi46, hzz⟩ := Option.map_eq_some_iff.1 info46
            simp only [Prod.mk.injEq] at hzz
            have HZ := Lib.hid (And.intro hi46 hzz)
            have hla := HA.out.below HM.out.bel
            have hlb := HB.out.below HM.out.bel
            have HO := Lib.hid (fun o => hlb.kept.alloc o)
            have hsz := hla.size
            have hkl : (keptL C us).length ≤ 512 := by
              have h1 : (keptL C us).length ≤ us.length := List.length_filter_le _ _
              omega
            have HL := Lib.hid (And.intro hla hlb)
            clear hi46 hzz hla hlb g2 g3 g4 u2
            go_upto_region 35 with fail
            go_wp2_with (first | (at_builtin; refine wpList_append_own _ rfl _ _ 32 rfl (B2 + 2) 46 i46 (.pointer none) 1 8 Yba.underlying32 HZ.out.1 HZ.out.2.1 HZ.out.2.2.1 HZ.out.2.2.2 rfl (by decide) _ _ _ rfl (HO.out _) ⟨wx.heap.size, 0, none⟩ 1 1 [.pointer (some ⟨s, 0, none⟩)] rfl rfl ?c1 ?c2 ?c3 ?c4 ?c5 ?_))
            case c1 =>
              intro j u hj
              match j, hj with
              | 0, hj =>
                simp at hj
                subst hj
                simp [go_sem]
            case c2 => intro u hu; simp at hu; subst hu; rfl
            case c3 => unfold maxLen; omega
            case c4 => omega
            case c5 => simp; omega
            intro kn w5 hown' hg _
            have h5 := close_grow _ HL.out.1 HL.out.2 HM.out.srow hown' hg
            rw [HSU.out.2] at h5
            obtain ⟨ha5, hb5, hr5, hne5⟩ := h5
            obtain ⟨G, hG, gg2, gg3, gg4⟩ := HM.out.gr
            have hG5 := hne5 hG (by decide) (by decide)
            have g2 : w5.cell? ⟨gb2, 2, none⟩ = some (.int .i64 (X.pa gi)) := (hG5.cell (by omega)).trans (by rw [gg2])
            have g3 : w5.cell? ⟨gb2, 3, none⟩ = some (.int .i64 (X.du gi)) := (hG5.cell (by omega)).trans (by rw [gg3])
            have g4 : w5.cell? ⟨gb2, 4, none⟩ = some (.bool (X.hs gi)) := (hG5.cell (by omega)).trans (by rw [gg4])
            have H5 := Lib.hid (And.intro ha5 (And.intro hb5 hr5))
            have hok := (ha5.ok gi hgn)
            rw [HX.out.1] at hok
            have HOK := Lib.hid hok
            clear hown' hg ha5 hb5 hr5 hne5 hG hG5 gg2 gg3 gg4 hok HL HO HZ u1
            cases hs : X.hs gi
            case' false =>
              rw [hs] at g4
              have HE := Lib.hid (close_none H5.out.1 H5.out.2.1 H5.out.2.2 HSU.out.1 HSU.out.2 HX.out.2.1 (by rw [HOK.out.has, hs]; simp))
              generalize addU C s x none = C' at HE
              go_upto_region 42 with fail
              refine (fun (f : ∀ wz, Hid (L2a w B B2 g cap i X now gs D fr (us ++ [s]) C' wz ∧ L2b B B2 i m k gs us (keptL C' (us ++ [s])) (foldZ D C' now fr (us ++ [s])) kn wz) → Code.wp _ _ _ _ wz) => f _ HE) ?_
              clear HE g2 g3 g4
              intro wz HE
            case' true =>
              rw [hs] at g4
              go_wp2_with fail
              refine (btime1 (X.du gi) _ e5).mono ?_
              rintro e w6 ⟨rfl, hb6⟩
              obtain ⟨N1, hN1⟩ : ∃ N1, laterZ (X.du gi) (M x) = N1 := ⟨_, rfl⟩
              obtain ⟨N, hN⟩ : ∃ N, laterZ N1 (X.pa gi) = N := ⟨_, rfl⟩
              have hnz : nextZ D x (M x) = N := by
                unfold nextZ
                rw [HOK.out.has, hs, HOK.out.due, HOK.out.pau, hN1, hN]
                rfl
              have HN := Lib.hid (And.intro hN1 (And.intro hN hnz))
              have r7 := row3 w6 (.int .u64 (X.du gi % 1000000000)) (.int .i64 (X.du gi / 1000000000)) (.pointer none) 27
              have hB7 := bal hb6 (.cells #[.int .u64 (X.du gi % 1000000000), .int .i64 (X.du gi / 1000000000), .pointer none] 27)
              have hge := hb6.size
              clear hN1 hN hnz hb6
              go_upto_region 38 with fail
              refine (fun (f : ∀ wy, Below w5.heap.size w5 wy ∧ wy.rowIs w6.heap.size 27 3 (fun i => if i = 0 then .int .u64 (X.du gi % 1000000000) else if i = 1 then .int .i64 (X.du gi / 1000000000) else .pointer none) → Code.wp _ _ _ _ wy) => f _ ⟨hB7, r7⟩) ?_
              clear r7 hB7
              intro wy hwy
              generalize w6.heap.size = ab at hwy hge ⊢
              have HW := Lib.hid hwy
              obtain ⟨FF, hFF, ff⟩ := (H5.out.2.1.below hwy.1).fm
              obtain ⟨f0, f1, f2⟩ := ff gi hgn
              simp only [HX.out.1] at f0 f1 f2
              have q0 : wy.cell? ⟨B + 1 + 1 + 1, gi * 3, none⟩ = some (.int .u64 (M x % 1000000000)) := (hFF.cell (by omega)).trans (by rw [f0])
              have q1 : wy.cell? ⟨B + 1 + 1 + 1, gi * 3 + 1, none⟩ = some (.int .i64 (M x / 1000000000)) := (hFF.cell (by omega)).trans (by rw [f1])
              have q2 : wy.cell? ⟨B + 1 + 1 + 1, gi * 3 + 2, none⟩ = some (.pointer none) := (hFF.cell (by omega)).trans (by rw [f2])
              have t0 : wy.cell? ⟨ab, 0, none⟩ = some (.int .u64 (X.du gi % 1000000000)) := (hwy.2.cell (by omega)).trans (by simp)
              have t1 : wy.cell? ⟨ab, 1, none⟩ = some (.int .i64 (X.du gi / 1000000000)) := (hwy.2.cell (by omega)).trans (by simp)
              have t2 : wy.cell? ⟨ab, 2, none⟩ = some (.pointer none) := (hwy.2.cell (by omega)).trans (by simp)
              have z0 := hwy.2.frozen 0
              have z1 := hwy.2.frozen 1
              have z2 := hwy.2.frozen 2
              have lab := hwy.2.lt
              clear hFF ff f0 f1 f2 hwy
              go_cut [176] (fun _ wc => Below w5.heap.size w5 wc ∧ ∃ F, wc.rowIs ab 27 3 F ∧ F 0 = .int .u64 (N1 % 1000000000) ∧ F 1 = .int .i64 (N1 / 1000000000) ∧ F 2 = .pointer none)
              case first =>
                go_region_with
                  (first | (go_at_call 8; refine (blater1 (X.du gi) (M x) N1 HN.out.1 _).mono ?_
                            rintro e w2 ⟨rfl, hb⟩
                            have hB : Below wy.heap.size wy w2 := btrans (Below.refl _ wy).drew hb
                            have h13 := cell_kept hB t0
                            have h14 := cell_kept hB t1
                            have h15 := cell_kept hB t2
                            have h19 := (World.frozen?_of_block (a := ⟨ab, 0, none⟩) (hB.block _ lab)).trans z0
                            have h20 := (World.frozen?_of_block (a := ⟨ab, 1, none⟩) (hB.block _ lab)).trans z1
                            have h21 := (World.frozen?_of_block (a := ⟨ab, 2, none⟩) (hB.block _ lab)).trans z2))
                all_goals
                  go_wp2
                  go_meet
                  case rel => exact ⟨bset (bset (bset (btrans HW.out.1 hB) hge _) hge _) hge _, _, (((below_rowIs hB HW.out.2).set 0 _).set 1 _).set 2 _, by simp, by simp, by simp⟩
              case' rest =>
                obtain ⟨hB8, F8, r8, y0, y1, y2⟩ := hcut
                clear q0 q1 q2 t0 t1 t2 z0 z1 z2 lab
                have t0 : wc.cell? ⟨ab, 0, none⟩ = some (.int .u64 (N1 % 1000000000)) := (r8.cell (by omega)).trans (by rw [y0])
                have t1 : wc.cell? ⟨ab, 1, none⟩ = some (.int .i64 (N1 / 1000000000)) := (r8.cell (by omega)).trans (by rw [y1])
                have t2 : wc.cell? ⟨ab, 2, none⟩ = some (.pointer none) := (r8.cell (by omega)).trans (by rw [y2])
                have z0 := r8.frozen 0
                have z1 := r8.frozen 1
                have z2 := r8.frozen 2
                have lab := r8.lt
                have g28 := cell_kept hB8 g2
                have lg8 := lt_of_cell g28
                have HW8 := Lib.hid (And.intro hB8 r8)
                clear hB8 r8 y0 y1 y2
                go_upto_region 39 with fail
                go_cut [181] (fun _ wc => Below w5.heap.size w5 wc ∧ ∃ F, wc.rowIs ab 27 3 F ∧ F 0 = .int .u64 (N % 1000000000) ∧ F 1 = .int .i64 (N / 1000000000) ∧ F 2 = .pointer none)
                case first =>
                  go_region_with
                    (first | (go_at_call 6; refine (btime1 (X.pa gi) _ e4).mono ?_
                              rintro e w2 ⟨rfl, hb⟩
                              have hB : Below wc.heap.size wc w2 := btrans (Below.refl _ wc).drew hb
                              have h13 := cell_kept hB t0
                              have h14 := cell_kept hB t1
                              have h15 := cell_kept hB t2)
                           | (go_at_call 8; refine (blater1 N1 (X.pa gi) N HN.out.2.1 _).mono ?_
                              rintro e w2 ⟨rfl, hb'⟩
                              have hB : Below wc.heap.size wc w2 := btrans hB hb'
                              have h13 := cell_kept hB t0
                              have h14 := cell_kept hB t1
                              have h15 := cell_kept hB t2
                              have h19 := (World.frozen?_of_block (a := ⟨ab, 0, none⟩) (hB.block _ lab)).trans z0
                              have h20 := (World.frozen?_of_block (a := ⟨ab, 1, none⟩) (hB.block _ lab)).trans z1
                              have h21 := (World.frozen?_of_block (a := ⟨ab, 2, none⟩) (hB.block _ lab)).trans z2))
                  all_goals
                    go_wp2
                    go_meet
                    case rel => exact ⟨bset (bset (bset (btrans HW8.out.1 hB) hge _) hge _) hge _, _, (((below_rowIs hB HW8.out.2).set 0 _).set 1 _).set 2 _, by simp, by simp, by simp⟩
                case' rest =>
                  obtain ⟨hB9, F9, r9, y0, y1, y2⟩ := hcut
                  clear t0 t1 t2 z0 z1 z2 lab g28 lg8
                  have t0 : wc.cell? ⟨ab, 0, none⟩ = some (.int .u64 (N % 1000000000)) := (r9.cell (by omega)).trans (by rw [y0])
                  have t1 : wc.cell? ⟨ab, 1, none⟩ = some (.int .i64 (N / 1000000000)) := (r9.cell (by omega)).trans (by rw [y1])
                  have t2 : wc.cell? ⟨ab, 2, none⟩ = some (.pointer none) := (r9.cell (by omega)).trans (by rw [y2])
                  have hbx := (H5.out.1.below hB9).box
                  have q0 : wc.cell? ⟨B, 0, none⟩ = some (.int .u64 (now % 1000000000)) := (hbx.cell (by omega)).trans (by simp)
                  have q1 : wc.cell? ⟨B, 1, none⟩ = some (.int .i64 (now / 1000000000)) := (hbx.cell (by omega)).trans (by simp)
                  have q2 : wc.cell? ⟨B, 2, none⟩ = some (.pointer none) := (hbx.cell (by omega)).trans (by simp)
                  have HB9 := Lib.hid hB9
                  clear hB9 r9 y0 y1 y2 hbx HW HW8
                  go_wp2_with fail
                  refine (after_any N now _).mono ?_
                  rintro e wq ⟨rfl, hwq⟩
                  have hBq : Below w5.heap.size w5 wq := hwq ▸ bal (bal HB9.out _) _
                  have HBQ := Lib.hid hBq
                  clear t0 t1 t2 q0 q1 q2 HB9 hwq
                  by_cases hnx : now < N
                  case' pos =>
                    have hd := decide_eq_true hnx
                    have HE := Lib.hid (close_none (H5.out.1.below hBq) (H5.out.2.1.below hBq) (by obtain ⟨S, hS, s0⟩ := H5.out.2.2; exact ⟨S, below_rowIs hBq hS, s0⟩) HSU.out.1 HSU.out.2 HX.out.2.1 (by rw [HN.out.2.2]; exact fun h => h.2 hnx))
                    generalize addU C s x none = C' at HE
                    clear hBq
                    go_upto_region 42 with fail
                    refine (fun (f : ∀ wz, Hid (L2a w B B2 g cap i X now gs D fr (us ++ [s]) C' wz ∧ L2b B B2 i m k gs us (keptL C' (us ++ [s])) (foldZ D C' now fr (us ++ [s])) kn wz) → Code.wp _ _ _ _ wz) => f _ HE) ?_
                    clear HE g2 g3 g4
                    intro wz HE
                  case' neg =>
                    have hd := decide_eq_false hnx
                    obtain ⟨T, hT⟩ : ∃ T, now + X.mg gi = T := ⟨_, rfl⟩
                    have he := close_free (H5.out.1.below hBq) (H5.out.2.1.below hBq) (by obtain ⟨S, hS, s0⟩ := H5.out.2.2; exact ⟨S, below_rowIs hBq hS, s0⟩) HSU.out.1 HSU.out.2 HX.out.1 HX.out.2.1 hgn ⟨by rw [HOK.out.has, hs], by rw [HN.out.2.2]; exact hnx⟩ hT
                    have hbx := (H5.out.1.below hBq).box
                    have q0 : wq.cell? ⟨B, 0, none⟩ = some (.int .u64 (now % 1000000000)) := (hbx.cell (by omega)).trans (by simp)
                    have q1 : wq.cell? ⟨B, 1, none⟩ = some (.int .i64 (now / 1000000000)) := (hbx.cell (by omega)).trans (by simp)
                    have q2 : wq.cell? ⟨B, 2, none⟩ = some (.pointer none) := (hbx.cell (by omega)).trans (by simp)
                    obtain ⟨FF, hFF, ff⟩ := (H5.out.2.1.below hBq).fm
                    have t0 : wq.cell? ⟨B + 1 + 1 + 1, gi * 3, none⟩ = some (FF (gi * 3)) := hFF.cell (by omega)
                    have t1 : wq.cell? ⟨B + 1 + 1 + 1, gi * 3 + 1, none⟩ = some (FF (gi * 3 + 1)) := hFF.cell (by omega)
                    have t2 : wq.cell? ⟨B + 1 + 1 + 1, gi * 3 + 2, none⟩ = some (FF (gi * 3 + 2)) := hFF.cell (by omega)
                    have z0 : wq.frozen? ⟨B + 1 + 1 + 1, gi * 3, none⟩ = false := hFF.frozen _
                    have z1 : wq.frozen? ⟨B + 1 + 1 + 1, gi * 3 + 1, none⟩ = false := hFF.frozen _
                    have z2 : wq.frozen? ⟨B + 1 + 1 + 1, gi * 3 + 2, none⟩ = false := hFF.frozen _
                    have lf : B + 1 + 1 + 1 < wq.heap.size := hFF.lt
                    have lf1 : B + 1 + 1 + 1 < wq.heap.size + 1 := by omega
                    have HE := Lib.hid (And.intro (he.1.below (bal (bal (Below.refl _ _) (.cells #[.int .u64 (T % 1000000000), .int .i64 (T / 1000000000), .pointer none] 27)) (.cells #[.int .u64 (T % 1000000000), .int .i64 (T / 1000000000), .pointer none] 27))) (he.2.below (bal (bal (Below.refl _ _) (.cells #[.int .u64 (T % 1000000000), .int .i64 (T / 1000000000), .pointer none] 27)) (.cells #[.int .u64 (T % 1000000000), .int .i64 (T / 1000000000), .pointer none] 27))))
                    generalize addU C s x none = C' at HE
                    have HT := Lib.hid hT
                    clear hBq he hbx hFF ff hT
                    go_wp2_with fail
                    refine (add1 now (X.mg gi) T HT.out _ hnow.1 hnow.2 e2.1 e2.2).mono ?_
                    rintro e wv ⟨rfl, rfl⟩
                    go_upto_region 42 with fail
                    refine (fun (f : ∀ wz, Hid (L2a w B B2 g cap i X now gs D fr (us ++ [s]) C' wz ∧ L2b B B2 i m k gs us (keptL C' (us ++ [s])) (foldZ D C' now fr (us ++ [s])) kn wz) → Code.wp _ _ _ _ wz) => f _ HE) ?_
                    clear HE g2 g3 g4
                    intro wz HE
          all_goals
            obtain ⟨AA, hAA⟩ := HE.out.2.all
            obtain ⟨SS, hSS, _⟩ := HE.out.2.sls
            have r0 : wz.cell? ⟨B2, k, none⟩ = some (AA k) := hAA.cell hkm
            have r1 : wz.frozen? ⟨B2, k, none⟩ = false := hAA.frozen k
            have r2 : wz.cell? ⟨B2 + 1, k, none⟩ = some (SS k) := hSS.cell hkm
            have r3 : wz.frozen? ⟨B2 + 1, k, none⟩ = false := hSS.frozen k
            clear hAA hSS
            go_wp2
            go_roundg (m - (k + 1))
            case measure => omega
            case rel =>
              refine ⟨k + 1, us ++ [s], C', by omega, rfl, by simp [hul], HE.out.1.kept HE.out.2 kept_put, ?_⟩
              rcases HE.out.2.put HE.out.1.b1 (s := s) with h | h
              · exact h
              · exact absurd hul h
        · have hkm' : k = m := by omega
          subst hkm'
          have hmg : ∀ j, j < i → In64 (X.mg j) := fun j hj => by
            obtain ⟨_, _, _, _, _, _, _, _, h, _⟩ := HG.out j hj
            exact h
          obtain ⟨A0, hcin⟩ := toCIn hla hlb hul hm5 hn5 hnow hmg
          have HC := Lib.hid (count_any _ _ _ _ _ _ D C now gs us A0 fr hcin)
          have q0 : wr.cell? ⟨B + 1, 1, none⟩ = some (.slice none 0 0) := (hla.rr.cell (by omega)).trans (by simp)
          have q1 : wr.frozen? ⟨B + 1, 1, none⟩ = false := hla.rr.frozen _
          have q2 : wr.cell? ⟨B, 0, none⟩ = some (.int .u64 (now % 1000000000)) := (hla.box.cell (by omega)).trans (by simp)
          have q3 : wr.cell? ⟨B, 1, none⟩ = some (.int .i64 (now / 1000000000)) := (hla.box.cell (by omega)).trans (by simp)
          have q4 : wr.cell? ⟨B, 2, none⟩ = some (.pointer none) := (hla.box.cell (by omega)).trans (by simp)
          clear hla hlb hcin hmg
          go_wp2_with fail
          refine HC.out.mono ?_
          rintro e w3 ⟨rfl, ⟨l, hhi, hperm⟩, hunc, hA, hkp⟩
          have h3 := toL3 HA.out HB.out hul hhi hperm hunc hA hkp
          obtain ⟨ks, hks⟩ : ∃ ks, keptL C us = ks := ⟨_, rfl⟩
          obtain ⟨M, hM⟩ : ∃ M, foldZ D C now fr us = M := ⟨_, rfl⟩
          rw [hks, hM] at h3
          have H3 := Lib.hid h3
          have hkl := h3.room
          have hkl2 : ks.length ≤ 512 := by omega
          obtain ⟨ka, kc, hkv, hkc⟩ := own_form h3.kept
          have HKC := Lib.hid hkc
          obtain ⟨capg, hrr0⟩ := h3.rr
          have hun0 := h3.unc
          subst hkv
          clear q0 q1 q2 q3 q4 HC HA HB hhi hperm hunc hA hkp hks hM hul h3 hkc hmu
          go_wp2
          go_loopg [26] ks.length (fun gh iv wr => ∃ j : Nat, j + gh = ks.length ∧ iv = .int .i64 (j : Nat) ∧ Below w3.heap.size w3 wr)
          case atStart => exact ⟨0, by omega, rfl, Below.refl _ _⟩
          case round =>
            obtain ⟨j, hj, rfl, hbj⟩ := hrel
            have hun := cell_kept hbj hun0
            by_cases hjl : j < ks.length
            · obtain ⟨kg, hka, hkcell⟩ := HKC.out j hjl
              subst hka
              obtain ⟨A, hA, a0, a1'⟩ := (H3.out.below hbj).sls
              have p0 : wr.cell? ⟨B2 + 1, j, none⟩ = some (.pointer (some ⟨ks.getD j 0, 0, none⟩)) := (hA.cell (by omega)).trans (by rw [a0 j hjl])
              have p1 := cell_kept hbj hkcell
              have HBJ := Lib.hid hbj
              generalize ks.getD j 0 = y at p0 p1
              clear hbj hA a0 a1' hkcell
              have hcmp := neq_slot ⟨y, 0, none⟩
              go_wp2
              go_region_held3 (fun w0 => w0.cell? ⟨B + 1, 1, none⟩ = some (.slice (some ⟨B2 + 1, 0, none⟩) ks.length k) ∧ w0.cell? ⟨B2 + 1, j, none⟩ = some (.pointer (some ⟨y, 0, none⟩)) ∧ w0.cell? ⟨kg, j, none⟩ = some (.pointer (some ⟨y, 0, none⟩))) (simp [go_sem, *]) (fail)
              all_goals
                go_wp2
                go_roundg (ks.length - (j + 1))
                case measure => omega
                case rel => exact ⟨j + 1, by omega, rfl, HBJ.out.drew⟩
            · have hje : j = ks.length := by omega
              subst hje
              have HBJ := Lib.hid hbj
              clear hbj hun
              go_wp2
              go_loopg [27] (k - ks.length) (fun gh iv wr => ∃ j : Nat, j + gh = k ∧ ks.length ≤ j ∧ iv = .int .i64 (j : Nat) ∧ Below w3.heap.size w3 wr)
              case atStart => exact ⟨ks.length, by omega, Nat.le_refl _, rfl, HBJ.out⟩
              case round =>
                obtain ⟨j, hj, hjk, rfl, hbj⟩ := hrel
                clear HBJ
                by_cases hjl : j < k
                · obtain ⟨A, hA, a0, a1'⟩ := (H3.out.below hbj).sls
                  have p0 : wr.cell? ⟨B2 + 1, j, none⟩ = some (.pointer none) := (hA.cell (by omega)).trans (by rw [a1' j hjk hjl])
                  have HBJ := Lib.hid hbj
                  clear hbj hA a0 a1'
                  go_wp2
                  go_roundg (k - (j + 1))
                  case measure => omega
                  case rel => exact ⟨j + 1, by omega, by omega, rfl, HBJ.out⟩
                · have hje : j = k := by omega
                  subst hje
                  have HBJ := Lib.hid hbj
                  clear hbj
                  go_wp2
                  go_loopg [28] i (fun gh iv wr => ∃ j : Nat, j + gh = i ∧ iv = .int .i64 (j : Nat) ∧ Below w3.heap.size w3 wr)
                  case atStart => exact ⟨0, by omega, rfl, HBJ.out⟩
                  case round =>
                    obtain ⟨t, ht, rfl, hbt⟩ := hrel
                    clear HBJ
                    have hrr := cell_kept hbt hrr0
                    by_cases htn : t < i
                    · have h3 := H3.out.below hbt
                      obtain ⟨FQ, hFQ, fq⟩ := h3.qs
                      obtain ⟨FF, hFF, ff⟩ := h3.fm
                      obtain ⟨f0, f1, f2⟩ := ff t htn
                      obtain ⟨x, hx⟩ : ∃ x, gs.getD t 0 = x := ⟨_, rfl⟩
                      simp only [hx] at f0 f1 f2
                      obtain ⟨G, hG, g0, g1, g2⟩ := h3.free x (hx ▸ getD_mem gs t (by rw [h3.len]; exact htn))
                      have p0 : wr.cell? ⟨B + 1 + 1, t, none⟩ = some (.pointer (some ⟨x, 0, none⟩)) := (hFQ.cell htn).trans (by rw [fq t htn, hx])
                      have p1 : wr.cell? ⟨B + 1 + 1 + 1, t * 3, none⟩ = some (.int .u64 (M x % 1000000000)) := (hFF.cell (by omega)).trans (by rw [f0])
                      have p2 : wr.cell? ⟨B + 1 + 1 + 1, t * 3 + 1, none⟩ = some (.int .i64 (M x / 1000000000)) := (hFF.cell (by omega)).trans (by rw [f1])
                      have p3 : wr.cell? ⟨B + 1 + 1 + 1, t * 3 + 2, none⟩ = some (.pointer none) := (hFF.cell (by omega)).trans (by rw [f2])
                      have p4 : wr.cell? ⟨x, 2, none⟩ = some (.int .u64 (M x % 1000000000)) := (hG.cell (by omega)).trans (by rw [g0])
                      have p5 : wr.cell? ⟨x, 3, none⟩ = some (.int .i64 (M x / 1000000000)) := (hG.cell (by omega)).trans (by rw [g1])
                      have p6 : wr.cell? ⟨x, 4, none⟩ = some (.pointer none) := (hG.cell (by omega)).trans (by rw [g2])
                      have l0 := lt_of_cell p0
                      have l1 := lt_of_cell p1
                      have l2 := lt_of_cell p4
                      have l3 : B + 1 + 1 < wr.heap.size + 1 := by omega
                      have l4 : B + 1 + 1 + 1 < wr.heap.size + 1 := by omega
                      have l5 : x < wr.heap.size + 1 := by omega
                      have HBT := Lib.hid hbt
                      clear hbt h3 hFQ fq hFF ff f0 f1 f2 hG g0 g1 g2 hrr hx
                      generalize M x = Y at p1 p2 p3 p4 p5 p6
                      go_wp2
                      go_region_held3 (fun w0 => w0.cell? ⟨B + 1 + 1, t, none⟩ = some (.pointer (some ⟨x, 0, none⟩)) ∧ w0.cell? ⟨B + 1 + 1 + 1, t * 3, none⟩ = some (.int .u64 (Y % 1000000000)) ∧ w0.cell? ⟨B + 1 + 1 + 1, t * 3 + 1, none⟩ = some (.int .i64 (Y / 1000000000)) ∧ w0.cell? ⟨B + 1 + 1 + 1, t * 3 + 2, none⟩ = some (.pointer none) ∧
                          w0.cell? ⟨x, 2, none⟩ = some (.int .u64 (Y % 1000000000)) ∧ w0.cell? ⟨x, 3, none⟩ = some (.int .i64 (Y / 1000000000)) ∧ w0.cell? ⟨x, 4, none⟩ = some (.pointer none)) (simp [go_sem, twoBoxes, World.cell?_alloc_past, *])
                        (first | (go_at_call 12; refine (equal_any Y Y _).mono ?_; rintro e w5 ⟨rfl, rfl⟩))
                      all_goals
                        go_wp2
                        go_roundg (i - (t + 1))
                        case measure => omega
                        case rel => exact ⟨t + 1, by omega, rfl, (bal (bal HBT.out _) _).drew⟩
                    · have hte : t = i := by omega
                      subst hte
                      have HBT := Lib.hid hbt
                      clear hbt
                      go_wp2
                      go_loopg [29] t (fun gh iv wr => ∃ j : Nat, j + gh = t ∧ iv = .int .i64 (j : Nat) ∧ Below w3.heap.size w3 wr)
                      case atStart => exact ⟨0, by omega, rfl, HBT.out⟩
                      case round =>
                        obtain ⟨r, hr, rfl, hbr⟩ := hrel
                        clear HBT
                        by_cases hrn : r < t
                        · obtain ⟨x, hx⟩ : ∃ x, gs.getD r 0 = x := ⟨_, rfl⟩
                          have hxm : x ∈ gs := hx ▸ getD_mem gs r (by rw [H3.out.len]; exact hrn)
                          have HBR := Lib.hid hbr
                          have HX := Lib.hid (And.intro hx hxm)
                          clear hbr hx hxm
                          go_wp2
                          go_loopg [30, 31] t (fun gh cv iv wr => ∃ j : Nat, j + gh = t ∧ iv = .int .i64 (j : Nat) ∧ cv = .int .i64 ((l.take j).count x : Nat) ∧ Below w3.heap.size w3 wr)
                          case atStart => exact ⟨0, by omega, rfl, by simp, HBR.out⟩
                          case round =>
                            obtain ⟨j, hj, rfl, rfl, hbj⟩ := hrel
                            have hrj := cell_kept hbj hrr0
                            by_cases hjn : j < t
                            · have h3 := H3.out.below hbj
                              have hll : l.length = t := by rw [h3.perm.length_eq]; exact h3.len
                              have hst := count_step l x j (by omega)
                              obtain ⟨y, hy⟩ : ∃ y, l.getD j 0 = y := ⟨_, rfl⟩
                              have hym : y ∈ gs := h3.perm.mem_iff.1 (hy ▸ getD_mem l j (by omega))
                              rw [hy] at hst
                              obtain ⟨c, hc⟩ : ∃ c, (l.take j).count x = c := ⟨_, rfl⟩
                              rw [hc] at hst
                              have hcb : c ≤ 512 := by
                                have h1 := List.count_le_length (a := x) (l := l.take j)
                                rw [List.length_take] at h1
                                omega
                              obtain ⟨Fx, hFx, _⟩ := h3.free x HX.out.2
                              obtain ⟨Fy, hFy, _⟩ := h3.free y hym
                              have hcmp := eql_group hFy.drew hFx.drew
                              obtain ⟨FQ, hFQ, fq⟩ := h3.qs
                              obtain ⟨G, cg, hG, hcg, g0⟩ := h3.heap
                              have p0 : wr.cell? ⟨B + 1 + 1, r, none⟩ = some (.pointer (some ⟨x, 0, none⟩)) := (hFQ.cell hrn).trans (by rw [fq r hrn, HX.out.1])
                              have p1 : wr.cell? ⟨g, j, none⟩ = some (.pointer (some ⟨y, 0, none⟩)) := (hG.cell (by omega)).trans (by rw [g0 j hjn, hy])
                              have HBJ := Lib.hid hbj
                              have HST := Lib.hid hst
                              rw [hc]
                              clear hbj h3 hll hst hy hym hFx hFy hFQ fq hG g0 hc
                              cases hyx : (y == x)
                              · rw [hyx] at hcmp HST
                                go_wp2
                                go_region
                                all_goals
                                  go_wp2
                                  go_roundg (t - (j + 1))
                                  case measure => omega
                                  case rel => exact ⟨j + 1, by omega, rfl, by rw [HST.out]; simp, HBJ.out.drew⟩
                              · rw [hyx] at hcmp HST
                                go_wp2
                                go_region
                                all_goals
                                  go_wp2
                                  go_roundg (t - (j + 1))
                                  case measure => omega
                                  case rel => exact ⟨j + 1, by omega, rfl, by rw [HST.out]; simp, HBJ.out.drew⟩
                            · have hje : j = t := by omega
                              subst hje
                              have hcn : (l.take j).count x = 1 := by
                                rw [List.take_of_length_le (by rw [H3.out.perm.length_eq, H3.out.len]; exact Nat.le_refl _)]
                                exact count_one H3.out.perm H3.out.nodup HX.out.2
                              rw [hcn]
                              have HBJ := Lib.hid hbj
                              clear hbj hcn
                              go_wp2
                              go_roundg (j - (r + 1))
                              case measure => omega
                              case rel => exact ⟨r + 1, by omega, rfl, HBJ.out⟩
                        · have hre : r = t := by omega
                          subst hre
                          go_wp2
                          go_ret
                          exact ⟨rfl, H3.out.bel.trans (hbr.mono H3.out.bel.size)⟩
end Go.Proofs.Ybulkbyaq
