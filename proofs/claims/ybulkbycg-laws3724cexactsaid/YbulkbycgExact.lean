/-
  The walk of LawS3724CExact (3).
-/
import Derived.Test.YbulkbycgBuild3
import Derived.Test.YbulkbycgSent
namespace Go.Proofs.Ybulkbycg
open Go.RowKit Go.Sort

/-- The lists that came in, whatever their lengths. -/
def TLens (w : World) (t0 : Option Addr) (tl : Nat) (Lf : Nat → Nat) : Prop :=
  ∀ m, m < tl → ∃ b o U C, t0 = some ⟨b, o, none⟩ ∧ b < w.heap.size ∧ w.cell? ⟨b, o + m, none⟩ = some (.slice U (Lf m) C) ∧ (Lf m ≤ 1024 → InRow w U (Lf m))

theorem csent_said (W : World) (g len total : Nat) (c : Nat → Nat) (T : Nat → Option (List Int)) (h : GroupIs W g len total c T) (hA : AllSrt T) (j : Int) (n : Nat) (hn : n < total) :
    ∃ b A L, W.cell? ⟨g, 6, none⟩ = some (.slice (some ⟨b, 0, none⟩) total total) ∧ W.cell? ⟨b, n, none⟩ = some (.slice A L L) ∧ Calls Yba.prog 7 #[.slice A L L, .int .i32 j] W fun e w' => e = .returned (.bool (sentB T j n)) ∧ ∃ q, w' = W.drewN q := by
  obtain ⟨b, X, h1, h2, h3⟩ := h.tos
  have h4 := h2 n hn
  cases hT : T n with
  | none =>
    rw [show toCell T X n = .slice none 0 0 by simp [toCell, hT]] at h4
    rw [show sentB T j n = true by simp [sentB, hT]]
    exact ⟨b, none, 0, h1, h4, (csent_nil W j).mono fun e w' h => ⟨h.1, 0, h.2⟩⟩
  | some l =>
    rw [show toCell T X n = .slice (some ⟨X n, 0, none⟩) l.length l.length by simp [toCell, hT]] at h4
    rw [show sentB T j n = decide (j ∈ l) by simp [sentB, hT]]
    exact ⟨b, some ⟨X n, 0, none⟩, l.length, h1, h4, csent_some W (X n) l j (hA n l hT).1 (h3 n hn l hT)⟩

set_option maxHeartbeats 1000000 in
theorem exact_long1 (a0 : Option Addr) (len cap : Nat) (t0 : Option Addr) (tl tcap : Nat) (j : Int) (w : World) (h : 256 < (len : Int)) :
    Calls Yba.prog 3 #[.slice a0 len cap, .slice t0 tl tcap, .int .i32 j] w fun e w' => e = .returned (.bool true) ∧ RowKit.Below w.heap.size w w' := by
  go_enter Yba.func3, Yba.ntmps3
  go_wp2
  go_ret
  exact ⟨rfl, RowKit.Below.refl _ _⟩

set_option maxHeartbeats 1000000 in
theorem exact_long2 (a0 : Option Addr) (len cap : Nat) (t0 : Option Addr) (tl tcap : Nat) (j : Int) (w : World) (h0 : ¬ (256 < (len : Int))) (h : 1024 < (tl : Int)) :
    Calls Yba.prog 3 #[.slice a0 len cap, .slice t0 tl tcap, .int .i32 j] w fun e w' => e = .returned (.bool true) ∧ RowKit.Below w.heap.size w w' := by
  go_enter Yba.func3, Yba.ntmps3
  go_wp2
  go_ret
  exact ⟨rfl, RowKit.Below.refl _ _⟩

set_option maxRecDepth 100000 in
set_option maxHeartbeats 2000000 in
theorem exact_any (a0 : Option Addr) (len cap : Nat) (t0 : Option Addr) (tl tcap : Nat) (j : Int) (c Lf : Nat → Nat) (w : World) (hlen : len ≤ 256) (htl : tl ≤ 1024) (hj0 : -2147483648 ≤ j) (hj1 : j ≤ 2147483647)
    (ht : TLens w t0 tl Lf) (hv : ∀ i, i < len → ∃ b off, a0 = some ⟨b, off, none⟩ ∧ b < w.heap.size ∧ c i ≤ 255 ∧ w.cell? ⟨b, off + i, none⟩ = some (.int .u8 (c i : Nat))) :
    Calls Yba.prog 3 #[.slice a0 len cap, .slice t0 tl tcap, .int .i32 j] w fun e w' => e = .returned (.bool true) ∧ RowKit.Below w.heap.size w w' := by
  have HV := Lib.hid hv
  have HT := Lib.hid ht
  have h256 : ¬ (256 < (len : Int)) := by omega
  have h1024 : ¬ (1024 < (tl : Int)) := by omega
  clear hv ht
  go_enter Yba.func3, Yba.ntmps3
  go_wp2
  go_loopg [7] tl (fun g vi wi => ∃ i : Nat, vi = .int .i64 i ∧ i + g = tl ∧ (∀ m, m < i → Lf m ≤ 1024) ∧ wi = w)
  case atStart => exact ⟨0, rfl, by omega, fun m hm => absurd hm (Nat.not_lt_zero _), rfl⟩
  case round =>
    obtain ⟨i, rfl, hi, hm, rfl⟩ := hrel
    have HM := Lib.hid hm
    clear hm
    by_cases hlt : i < tl
    · obtain ⟨b, o, U, C, rfl, hb, hcell, _⟩ := HT.out i hlt
      by_cases hbig : 1024 < Lf i
      · go_wp2
        go_ret
        exact ⟨rfl, RowKit.Below.refl _ _⟩
      · go_wp2
        go_roundg (gk - 1)
        case measure => omega
        case rel =>
          refine ⟨i + 1, by go_num, by omega, fun m hm => ?_, rfl⟩
          by_cases e : m = i
          · subst e; omega
          · exact HM.out m (by omega)
    · have hta : TArg wr t0 tl := fun m hm => by
        obtain ⟨b, o, U, C, h1, h2, h3, h4⟩ := HT.out m hm
        exact ⟨b, o, U, Lf m, C, h1, h2, h3, h4 (HM.out m (by omega))⟩
      have hbd := build_any a0 len cap t0 tl tcap c wr hlen htl hta HV.out
      have HBD := Lib.hid hbd
      clear hbd hta
      go_wp2_with fail
      refine HBD.out.mono ?_
      rintro e w1 ⟨rfl, hb1, T, hG, hA⟩
      obtain ⟨oa, h1⟩ := hG.of
      obtain ⟨bb, h2, h3⟩ := hG.base
      have h4 := h3 len (Nat.le_refl _)
      have hp := pre_le c len
      have HG := Lib.hid hG
      have HA := Lib.hid hA
      have HB1 := Lib.hid hb1
      clear h3 hG HBD hb1 hA
      generalize wr.heap.size + 1 + 1 = g at *
      go_wp2
      go_quiet (fail)
      have hmk := run_make_row' (P := Yba.prog) 24 21 (.int .i32 0) 4 Yba.underlying24 info21 rfl .i64 .i64 (pre c len + 1) (by omega) (by omega)
      rw [show ((pre c len + 1 : Nat) : Int) = (pre c len : Int) + 1 by omega] at hmk
      have HBr := Lib.hid (show RowKit.Below w1.heap.size w1 ((w1.drewN nq).alloc (.cells (madeCells #[.int .i32 0] (pre c len + 1)) 21)) from (below_drewN (RowKit.Below.refl _ _) nq).alloc (Nat.le_refl _) _)
      have HRw := Lib.hid (show ((w1.drewN nq).alloc (.cells (madeCells #[.int .i32 0] (pre c len + 1)) 21)).rowIs w1.heap.size 21 (pre c len + 1) (fun _ => .int .i32 0) from World.rowIs_made (w1.drewN nq) (.int .i32 0) (pre c len + 1) 21)
      go_wp2
      clear hmk h1 h2 h4
      go_loopg [11] (pre c len + 1) (fun gh vi wi => ∃ i : Nat, vi = .int .i64 i ∧ i + gh = pre c len + 1 ∧ RowKit.Below w1.heap.size w1 wi ∧ wi.rowIs w1.heap.size 21 (pre c len + 1) (fun m => if m < i then .int .i32 (-7) else .int .i32 0))
      case atStart => exact ⟨0, rfl, by omega, HBr.out, HRw.out.congr fun m _ => by rw [if_neg (Nat.not_lt_zero _)]⟩
      case round =>
        obtain ⟨k, rfl, hk, hbk, hrow⟩ := hrel
        clear HBr HRw
        have HBk := Lib.hid hbk
        have HRk := Lib.hid hrow
        by_cases hkl : k < pre c len + 1
        · have hc1 := hrow.cell (i := k) hkl
          have hf1 := hrow.frozen k
          rw [if_neg (Nat.lt_irrefl _)] at hc1
          clear hbk hrow
          go_wp2
          go_roundg (gk - 1)
          case measure => omega
          case rel =>
            refine ⟨k + 1, by go_num, by omega, HBk.out.setCell (Nat.le_refl _) _, (HRk.out.set k _).congr fun m _ => ?_⟩
            by_cases e : m = k
            · subst e; rw [if_pos rfl, if_pos (by omega)]
            · rw [if_neg e]
              by_cases hl : m < k
              · rw [if_pos hl, if_pos (by omega)]
              · rw [if_neg hl, if_neg (by omega)]
        · have hke : k = pre c len + 1 := by omega
          have hrow7 : wr.rowIs w1.heap.size 21 (pre c len + 1) (fun _ => .int .i32 (-7)) := hrow.congr fun m hm => by rw [if_pos (by omega)]
          clear hrow hbk HRk
          have hS := sent_said w1 g len (pre c len) c T HG.out HA.out (by omega) j hj0 hj1
          have hrk := rank_any w1 g len (pre c len + 1) w1.heap.size (pre c len + 1) c T (sentB T j) j (fun _ => .int .i32 (-7)) wr hlen HG.out hS HBk.out (Nat.le_refl _) hrow7 (by omega) (by omega)
          have HRK := Lib.hid hrk
          clear hrk hS hrow7 hk
          subst hke
          go_wp2_with fail
          refine HRK.out.mono ?_
          rintro e w2 ⟨rfl, F, hF⟩
          have hlast := hF.row.cell (i := pre c len) (by omega)
          rw [hF.left (pre c len) (by omega)] at hlast
          have HF := Lib.hid hF
          clear hF HRK HBk
          go_wp2
          clear hlast
          have HB2 := Lib.hid (HB1.out.trans (HF.out.below.mono HB1.out.size))
          go_loopg [12, 13, 14, 15] len (fun gh vn vs _ _ wi => ∃ s q : Nat, s + gh = len ∧ vn = .int .i64 (pre c s : Nat) ∧ vs = .int .i64 s ∧ wi = w2.drewN q)
          case atStart => exact ⟨0, 0, by omega, rfl, rfl, rfl⟩
          case round =>
            obtain ⟨s, q, hs, rfl, rfl, hw⟩ := hrel
            have HW := Lib.hid hw
            clear hw
            by_cases hlt : s < len
            · have hps := pre_mono c (show s + 1 ≤ len by omega)
              rw [pre_succ] at hps
              have hps1 := pre_le c s
              go_wp2
              go_loopg [12, 14, 15] (c s % 8) (fun gh vn vc vk wi => ∃ k q : Nat, k + gh = c s % 8 ∧ vn = .int .i64 (pre c s + k : Nat) ∧ vc = .int .i32 (cnt (sentB T j) (pre c s) k : Nat) ∧ vk = .int .i64 k ∧ wi = w2.drewN q)
              case atStart => exact ⟨0, q, by omega, rfl, rfl, rfl, HW.out⟩
              case round =>
                clear HW
                obtain ⟨k, q, hk, rfl, rfl, rfl, hw⟩ := hrel
                obtain ⟨b, off, rfl, hb, hc8, hcell0⟩ := HV.out s hlt
                have hcell : wr.cell? ⟨b, off + s, none⟩ = some (.int .u8 (c s : Nat)) := by rw [hw]; exact (HB2.out.cell (p := ⟨b, off + s, none⟩) hb).trans hcell0
                clear hcell0
                by_cases hlt2 : k < c s % 8
                · have hGw : GroupIs wr g len (pre c len) c T := by rw [hw]; exact HG.out.kept (below_drewN HF.out.below q)
                  obtain ⟨tb, A, L, t1, t2, hcs⟩ := csent_said wr g len (pre c len) c T hGw HA.out j (pre c s + k) (by omega)
                  have hr : wr.cell? ⟨w1.heap.size, pre c s + k, none⟩ = some (.int .i32 (cnt (sentB T j) (pre c s) (k + 1) : Nat)) := by
                    rw [hw]
                    have := HF.out.row.cell (i := pre c s + k) (by omega)
                    rw [HF.out.done s hlt k hlt2] at this
                    exact this
                  have HCS := Lib.hid hcs
                  have HW := Lib.hid hw
                  have hcl := cnt_le (sentB T j) (pre c s) k
                  have hcs2 := cnt_succ (sentB T j) (pre c s) k
                  have HC2 := Lib.hid hcs2
                  clear hcs hw hGw hcs2
                  go_wp2_with fail
                  refine HCS.out.mono ?_
                  rintro e w3 ⟨rfl, q2, rfl⟩
                  clear HCS
                  cases hfk : sentB T j (pre c s + k)
                  · rw [cnt_succ, hfk] at hr
                    simp only [Bool.false_eq_true, if_false, Nat.add_zero] at hr
                    have Hf := Lib.hid hfk
                    clear hfk
                    go_wp2
                    go_roundg (gk - 1)
                    case measure => omega
                    case rel => exact ⟨k + 1, q + q2, by omega, by go_num, val_int (by rw [HC2.out, Hf.out]; simp), by go_num, by rw [HW.out, World.drewN_drewN]⟩
                  · rw [cnt_succ, hfk] at hr
                    simp only [if_true] at hr
                    have Hf := Lib.hid hfk
                    clear hfk
                    go_wp2
                    go_roundg (gk - 1)
                    case measure => omega
                    case rel => exact ⟨k + 1, q + q2, by omega, by go_num, val_int (by rw [HC2.out, Hf.out]; simp), by go_num, by rw [HW.out, World.drewN_drewN]⟩
                · have hke : k = c s % 8 := by omega
                  have HW := Lib.hid hw
                  clear hw
                  go_wp2
                  go_roundg (len - (s + 1))
                  case measure => omega
                  case rel => exact ⟨s + 1, q, by omega, val_int (by rw [pre_succ, hke]), by go_num, HW.out⟩
            · have hse : s = len := by omega
              subst hse
              go_wp2
              go_ret
              refine ⟨?_, ?_⟩
              · simp
              · rw [HW.out]; exact below_drewN HB2.out q
end Go.Proofs.Ybulkbycg
