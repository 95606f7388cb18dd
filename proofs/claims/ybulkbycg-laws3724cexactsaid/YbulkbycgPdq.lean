/-
  slices.pdqsortOrdered at int32 (10): it sorts.
-/
import Derived.Test.YbulkbycgIns
import Derived.Test.YbulkbycgHeap
import Derived.Test.YbulkbycgRev
import Derived.Test.YbulkbycgPartEq
import Derived.Test.YbulkbycgPart
import Derived.Test.YbulkbycgPartial
import Derived.Test.YbulkbycgChoose
import Derived.Test.YbulkbycgBreak
import Derived.Sort.LotD3
namespace Go.Proofs.Ybulkbycg
open Go.RowKit Go.Sort

/-- The loop's state: [x, y) of e is left; whoever sorts it has sorted [a, b) of d. -/
structure PInv (w wi : World) (B off n a b : Nat) (d : Array Int) (x y : Nat) (e : Array Int) : Prop where
  xy : x ≤ y
  yn : y ≤ n
  bel : Sort.Below ltInt x y e
  sw : SW w wi B off n e
  fin : ∀ R, PermIn x y e R → SortedIn ltInt x y R → PermIn a b d R ∧ SortedIn ltInt a b R

theorem PInv.perm {w wi wj : World} {B off n a b : Nat} {d : Array Int} {x y : Nat} {e f : Array Int} (h : PInv w wi B off n a b d x y e) (hs : SW w wj B off n f) (hp : PermIn x y e f) : PInv w wj B off n a b d x y f :=
  ⟨h.xy, h.yn, h.bel.perm (by rw [h.sw.size]; exact h.yn) hp, hs, fun R p s => h.fin R (permIn_trans _ _ _ _ _ hp p) s⟩

theorem PInv.done {w wi wj : World} {B off n a b : Nat} {d : Array Int} {x y : Nat} {e f : Array Int} (h : PInv w wi B off n a b d x y e) (hs : SW w wj B off n f) (hp : PermIn x y e f ∧ SortedIn ltInt x y f) :
    ∃ R, SW w wj B off n R ∧ PermIn a b d R ∧ SortedIn ltInt a b R := ⟨f, hs, h.fin f hp.1 hp.2⟩

theorem PInv.le {w wi : World} {B off n a b : Nat} {d : Array Int} {x y : Nat} {e : Array Int} (h : PInv w wi B off n a b d x y e) : y ≤ e.size := by rw [h.sw.size]; exact h.yn

set_option maxRecDepth 100000 in
set_option maxHeartbeats 4000000 in
theorem pdq_any : ∀ (N : Nat) (w wr : World) (B off n cap a b limit : Nat) (d : Array Int), b - a < N → SW w wr B off n d → a ≤ b → b ≤ n → n ≤ 1024 → limit ≤ 100 → Sort.Below ltInt a b d →
    Calls Yba.prog 10 #[.slice (some ⟨B, off, none⟩) n cap, .int .i64 a, .int .i64 b, .int .i64 limit] wr fun e w' => e = .returned (.tuple #[]) ∧ ∃ R, SW w w' B off n R ∧ PermIn a b d R ∧ SortedIn ltInt a b R := by
  intro N
  induction N with
  | zero => intro _ _ _ _ _ _ _ _ _ _ h; exact absurd h (Nat.not_lt_zero _)
  | succ N ih =>
    intro w wr B off n cap a b limit d hN hS hab hb hn hlim hBel
    have HIH := Lib.hid ih
    have HP := Lib.hid (show PInv w wr B off n a b d a b d from ⟨hab, hb, hBel, hS, fun R p s => ⟨p, s⟩⟩)
    clear ih hS hBel
    go_enter Yba.func10, Yba.ntmps10
    go_wp2
    go_loopg [1, 2, 3, 8, 9] (b - a) (fun g s1 s2 s3 s8 s9 wi => ∃ (x y lim : Nat) (wb wp : Bool) (e : Array Int), s1 = .int .i64 x ∧ s2 = .int .i64 y ∧ s3 = .int .i64 lim ∧ s8 = .bool wb ∧ s9 = .bool wp ∧ y - x ≤ g ∧ g ≤ b - a ∧ lim ≤ limit ∧ PInv w wi B off n a b d x y e)
    case atStart => exact ⟨a, b, limit, true, true, d, rfl, rfl, rfl, rfl, rfl, Nat.le_refl _, Nat.le_refl _, Nat.le_refl _, HP.out⟩
    case round =>
      clear HP
      obtain ⟨x, y, lim, wb, wp, e, rfl, rfl, rfl, rfl, rfl, hg, hgN, hl, hP⟩ := hrel
      have hxy := hP.xy
      have hyn := hP.yn
      have HP := Lib.hid hP
      by_cases h12 : y - x ≤ 12
      · have h12z : (y : Int) - (x : Int) ≤ 12 := by omega
        have hc := Lib.hid (ins_any w wr B off n cap x y e hP.sw hxy hyn hn)
        clear hP
        go_wp2_with fail
        refine hc.out.mono ?_
        rintro ex w1 ⟨rfl, h1⟩
        have H1 := Lib.hid h1
        clear h1 hc
        go_wp2
        (try simp only [Exit.inBlock, Exit.then])
        refine bodyPost_ret (results_none rfl _ _ _) rfl ?_
        exact ⟨rfl, HP.out.done H1.out (insertionSort_holds swo_ltInt e x y hxy HP.out.le)⟩
      · have h12z : ¬ ((y : Int) - (x : Int) ≤ 12) := by omega
        by_cases hl0 : lim = 0
        · subst hl0
          have hc := Lib.hid (heap_any w wr B off n cap x y e hP.sw hxy hyn hn)
          clear hP
          go_wp2_with fail
          refine hc.out.mono ?_
          rintro ex w1 ⟨rfl, h1⟩
          have H1 := Lib.hid h1
          clear h1 hc
          go_wp2
          (try simp only [Exit.inBlock, Exit.then])
          refine bodyPost_ret (results_none rfl _ _ _) rfl ?_
          exact ⟨rfl, HP.out.done H1.out (heapSort_holds swo_ltInt e x y hxy HP.out.le)⟩
        · have hl0z : ¬ ((lim : Int) = 0) := by omega
          clear hP
          go_upto_if 35 with fail
          go_cut [3] (fun s3 wc => ∃ (l : Nat) (f : Array Int), s3 = .int .i64 l ∧ l ≤ limit ∧ PInv w wc B off n a b d x y f)
          case first =>
            cases wb
            · have hc := Lib.hid (break_any w wr B off n cap x y e HP.out.sw (by omega) hyn hn)
              go_wp2_with fail
              refine hc.out.mono ?_
              rintro ex w1 ⟨rfl, h1⟩
              have H1 := Lib.hid h1
              clear h1 hc
              go_wp2
              go_meet
              case rel => exact ⟨lim - 1, _, by go_num, by omega, HP.out.perm H1.out (breakPatterns_holds e x y hxy HP.out.le)⟩
            · go_wp2
              go_meet
              case rel => exact ⟨lim, e, rfl, hl, HP.out⟩
          case rest =>
            clear HP hl0 hl0z hl
            obtain ⟨l, f, rfl, hl, hP⟩ := hcut
            have hc := Lib.hid (choose_any w wc B off n cap x y f hP.sw (by omega) hyn hn)
            have hpv := choosePivot_holds ltInt f x y (by omega)
            have HP := Lib.hid hP
            clear hP
            obtain ⟨c, hcd⟩ : ∃ c, choosePivot ltInt f x y = c := ⟨_, rfl⟩
            rw [hcd] at hc hpv
            clear hcd
            obtain ⟨k, hk⟩ : ∃ k, hintCode c.2 = k := ⟨_, rfl⟩
            rw [hk] at hc
            clear hk
            go_upto_region 11 with (go_at_call 16; refine hc.out.mono ?_; rintro ex w2 ⟨rfl, hw2⟩)
            have HP2 := Lib.hid (HP.out.perm hw2 (permIn_refl f x y))
            clear HP hc hw2
            go_upto_if 50 with fail
            go_cut [11, 12] (fun s11 s12 wc => ∃ (p : Nat) (k : Int) (f : Array Int), s11 = .int .i64 p ∧ s12 = .int .i64 k ∧ x ≤ p ∧ p < y ∧ PInv w wc B off n a b d x y f)
            case first =>
              by_cases h2 : k = 2
              · subst h2
                have hc := Lib.hid (rev_any w w2 B off n cap x y f HP2.out.sw (by omega) hyn hn)
                go_wp2_with fail
                refine hc.out.mono ?_
                rintro ex w3 ⟨rfl, h3⟩
                have H3 := Lib.hid h3
                clear h3 hc
                go_wp2
                go_meet
                case rel => exact ⟨y - 1 - (c.1 - x), 1, _, by go_num, rfl, by omega, by omega, HP2.out.perm H3.out (reverseRange_holds f x y hxy HP2.out.le)⟩
              · go_wp2
                go_meet
                case rel => exact ⟨c.1, k, f, rfl, rfl, hpv.1, hpv.2, HP2.out⟩
            case rest =>
              clear HP2 hpv
              obtain ⟨p, k, f, rfl, rfl, hxp, hpy, hP⟩ := hcut
              have HP := Lib.hid hP
              clear hP
              go_upto_region 15 with fail
              go_cut [12, 68] (fun _ s68 wx => ∃ t, s68 = .bool t ∧ wx = wc)
              case first =>
                by_cases hk1 : k = 1
                · subst hk1
                  cases wb <;> cases wp <;> (go_wp2; go_meet; exact ⟨_, rfl, rfl⟩)
                · cases wb <;> cases wp <;> (go_wp2; go_meet; exact ⟨_, rfl, rfl⟩)
              case rest =>
                obtain ⟨t, rfl, rfl⟩ := hcut
                go_upto_if 68 with fail
                go_cut [] (fun wc => ∃ (f : Array Int), PInv w wc B off n a b d x y f)
                case first =>
                  cases t
                  · go_wp2
                    go_meet
                    case rel => exact ⟨f, HP.out⟩
                  · have hpi := partialInsertionSort_holds swo_ltInt f x y (by omega) HP.out.le HP.out.bel
                    have hc := pins_any w _ B off n cap x y f HP.out.sw (by omega) hyn hn
                    obtain ⟨r, hr⟩ : ∃ r, partialInsertionSort ltInt f x y = r := ⟨_, rfl⟩
                    rw [hr] at hpi hc
                    have HC := Lib.hid hc
                    have HPI := Lib.hid hpi
                    clear hr hc hpi
                    cases hr2 : r.2
                    · rw [hr2] at HC
                      go_wp2_with fail
                      refine HC.out.mono ?_
                      rintro ex w4 ⟨rfl, h4⟩
                      have H4 := Lib.hid h4
                      clear h4 HC
                      go_wp2
                      go_meet
                      case rel => exact ⟨_, HP.out.perm H4.out HPI.out.1⟩
                    · rw [hr2] at HC
                      go_wp2_with fail
                      refine HC.out.mono ?_
                      rintro ex w4 ⟨rfl, h4⟩
                      have H4 := Lib.hid h4
                      clear h4 HC
                      go_wp2
                      (try simp only [Exit.inBlock, Exit.then])
                      refine bodyPost_ret (results_none rfl _ _ _) rfl ?_
                      exact ⟨rfl, HP.out.done H4.out ⟨HPI.out.1, HPI.out.2 hr2⟩⟩
                case rest =>
                  clear HP
                  obtain ⟨f, hP⟩ := hcut
                  obtain ⟨G, HG, hc, hf⟩ := hP.sw.fam
                  have HP := Lib.hid hP
                  clear hP
                  go_upto_region 17 with fail
                  go_cut [87] (fun s87 wx => ∃ t, s87 = .bool t ∧ (t = true → 0 < x ∧ ltInt f[x - 1]! f[p]! = false) ∧ PInv w wx B off n a b d x y f)
                  case first =>
                    by_cases hx0 : 0 < x
                    · have hx0z : (x : Int) > 0 := by omega
                      go_quiet (first | (go_at_call 19; refine Calls.quiet_of_same (less_any _ _ _)))
                      go_wp2
                      go_meet
                      case rel => exact ⟨_, rfl, fun h => ⟨by omega, by rw [← HG.out, ← HG.out]; simpa using h⟩, HP.out.perm (HP.out.sw.drewN _) (permIn_refl f x y)⟩
                    · have hx0z : decide (0 < (x : Int)) = false := decide_eq_false (by omega)
                      have hx0y : decide (0 < x) = false := decide_eq_false (by omega)
                      go_quiet (first | (go_at_call 19; refine Calls.quiet_of_same (less_any _ _ _)))
                      go_wp2
                      go_meet
                      case rel => exact ⟨_, rfl, fun h => absurd h Bool.false_ne_true, HP.out.perm (HP.out.sw.drewN _) (permIn_refl f x y)⟩
                  case rest =>
                    clear HP hc hf HG
                    obtain ⟨t, rfl, ht, hP⟩ := hcut
                    have HP := Lib.hid hP
                    have HT := Lib.hid ht
                    clear hP ht
                    cases t
                    · obtain ⟨mid, ap, f4, hx⟩ : ∃ mid ap f4, partition ltInt f x y p = (mid, ap, f4) := ⟨(partition ltInt f x y p).1, (partition ltInt f x y p).2.1, (partition ltInt f x y p).2.2, rfl⟩
                      obtain ⟨r1, r2, r3, r4, r5, r6, r7⟩ := round_part swo_ltInt (partition_holds ltInt) hxp hpy HP.out.le HP.out.bel hx
                      have hc := part_any w wc B off n cap x y p f HP.out.sw hxp hpy hyn hn
                      rw [hx] at hc
                      have HC := Lib.hid hc
                      have R4 := Lib.hid r4
                      have R5 := Lib.hid r5
                      have R6 := Lib.hid r6
                      have R7 := Lib.hid r7
                      clear hc hx r3 r4 r5 r6 r7 HT
                      by_cases h4 : mid - x < y - mid
                      · have h4z : (mid : Int) - (x : Int) < (y : Int) - (mid : Int) := by omega
                        go_wp2_with fail
                        refine HC.out.mono ?_
                        rintro ex w7 ⟨rfl, h7⟩
                        have hih := Lib.hid (HIH.out w w7 B off n cap x mid l f4 (by omega) h7 r1 (by omega) hn (by omega) R4.out)
                        clear h7 HC
                        go_wp2_with fail
                        refine hih.out.mono ?_
                        rintro ex w8 ⟨rfl, L, hL, pL, sL⟩
                        have HL := Lib.hid (⟨hL, pL, sL⟩ : SW w w8 B off n L ∧ PermIn x mid f4 L ∧ SortedIn ltInt x mid L)
                        clear hL pL sL hih
                        go_wp2
                        go_roundg (y - (mid + 1))
                        case measure => omega
                        case rel =>
                          obtain ⟨hL, pL, sL⟩ := HL.out
                          exact ⟨mid + 1, y, l, _, ap, L, by go_num, rfl, rfl, rfl, rfl, Nat.le_refl _, by omega, hl, by omega, hyn, (R6.out L pL sL).1, hL, fun R pR sR => HP.out.fin R ((R6.out L pL sL).2 R pR sR).1 ((R6.out L pL sL).2 R pR sR).2⟩
                      · have h4z : ¬ ((mid : Int) - (x : Int) < (y : Int) - (mid : Int)) := by omega
                        go_wp2_with fail
                        refine HC.out.mono ?_
                        rintro ex w7 ⟨rfl, h7⟩
                        have hih := HIH.out w w7 B off n cap (mid + 1) y l f4 (by omega) h7 (by omega) hyn hn (by omega) R5.out
                        rw [show ((mid + 1 : Nat) : Int) = (mid : Int) + 1 by omega] at hih
                        have HI := Lib.hid hih
                        clear h7 HC hih
                        go_wp2_with fail
                        refine HI.out.mono ?_
                        rintro ex w8 ⟨rfl, L, hL, pL, sL⟩
                        have HL := Lib.hid (⟨hL, pL, sL⟩ : SW w w8 B off n L ∧ PermIn (mid + 1) y f4 L ∧ SortedIn ltInt (mid + 1) y L)
                        clear hL pL sL HI
                        go_wp2
                        go_roundg (mid - x)
                        case measure => omega
                        case rel =>
                          obtain ⟨hL, pL, sL⟩ := HL.out
                          exact ⟨x, mid, l, _, ap, L, rfl, rfl, rfl, rfl, rfl, Nat.le_refl _, by omega, hl, r1, by omega, (R7.out L pL sL).1, hL, fun R pR sR => HP.out.fin R ((R7.out L pL sL).2 R pR sR).1 ((R7.out L pL sL).2 R pR sR).2⟩
                    · obtain ⟨hx0, hnl⟩ := HT.out rfl
                      obtain ⟨mid, f4, hx⟩ : ∃ mid f4, partitionEqual ltInt f x y p = (mid, f4) := ⟨(partitionEqual ltInt f x y p).1, (partitionEqual ltInt f x y p).2, rfl⟩
                      obtain ⟨r1, r2, r3, r4, r5⟩ := round_eq swo_ltInt (partitionEqual_holds ltInt) hx0 hxp hpy HP.out.le HP.out.bel hnl hx
                      have hc := parteq_any w wc B off n cap x y p f HP.out.sw hxp hpy hyn hn
                      rw [hx] at hc
                      have HC := Lib.hid hc
                      have R4 := Lib.hid r4
                      have R5 := Lib.hid r5
                      clear hc hx r3 r4 r5 HT hnl
                      go_wp2_with fail
                      refine HC.out.mono ?_
                      rintro ex w7 ⟨rfl, h7⟩
                      have H7 := Lib.hid h7
                      clear h7 HC
                      go_wp2
                      go_roundg (y - mid)
                      case measure => omega
                      case rel => exact ⟨mid, y, l, wb, wp, f4, rfl, rfl, rfl, rfl, rfl, Nat.le_refl _, by omega, hl, r2, hyn, R4.out, H7.out, fun R pR sR => HP.out.fin R (R5.out R pR sR).1 (R5.out R pR sR).2⟩
end Go.Proofs.Ybulkbycg
