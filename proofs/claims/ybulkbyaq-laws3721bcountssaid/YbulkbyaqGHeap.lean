/-
  container/heap's up and down over '*groupHeap', told by what Less and Swap do to a list of numbers.
-/
import Derived.Test.YbulkbyaqHeap
namespace Go.Proofs.Ybulkbyaq
open Go.RowKit

theorem load31 (a : Addr) (w : World) (v : Value) (h : w.cell? a = some v) : (loadVar 31 a).run Yba.prog w = .ok v w := by
  simp [go_sem, h]
theorem gmeth_len (Q : Nat) (w : World) (v : Value) (h : w.cell? ⟨Q, 0, none⟩ = some v) : (method 276 93 (.pointer (some ⟨Q, 0, none⟩)) "Len").run Yba.prog w = .ok (71, v) w :=
  meth_load Yba.underlying93 (by kernel_rfl) 275 _ w v (load31 _ w v h)
theorem gmeth_less (Q : Nat) (w : World) (v : Value) (h : w.cell? ⟨Q, 0, none⟩ = some v) : (method 276 93 (.pointer (some ⟨Q, 0, none⟩)) "Less").run Yba.prog w = .ok (72, v) w :=
  meth_load Yba.underlying93 (by kernel_rfl) 275 _ w v (load31 _ w v h)
theorem gmeth_swap (Q : Nat) (w : World) (v : Value) (h : w.cell? ⟨Q, 0, none⟩ = some v) : (method 276 93 (.pointer (some ⟨Q, 0, none⟩)) "Swap").run Yba.prog w = .ok (73, v) w :=
  meth_load Yba.underlying93 (by kernel_rfl) 275 _ w v (load31 _ w v h)

/-- What Less and Swap do, told over a predicate of worlds and lists. -/
def GLessM (Q : Nat) (I : World → List Nat → Prop) (Lb : List Nat → Nat → Nat → Bool → Prop) : Prop :=
  ∀ W l i j, I W l → i < l.length → j < l.length → ∃ v, W.cell? ⟨Q, 0, none⟩ = some v ∧ Calls Yba.prog 72 #[v, .int .i64 (i : Nat), .int .i64 (j : Nat)] W fun e w' => ∃ b, e = .returned (.bool b) ∧ Lb l i j b ∧ I w' l
def GSwapM (Q : Nat) (I : World → List Nat → Prop) : Prop :=
  ∀ W l i j, I W l → i < l.length → j < l.length → i ≠ j → ∃ v, W.cell? ⟨Q, 0, none⟩ = some v ∧ Calls Yba.prog 73 #[v, .int .i64 (i : Nat), .int .i64 (j : Nat)] W fun e w' => e = .returned (.tuple #[]) ∧ I w' (swapL l i j)

set_option maxRecDepth 100000 in
set_option maxHeartbeats 800000 in
theorem gup_any (Q j0 : Nat) (I : World → List Nat → Prop) (Lb : List Nat → Nat → Nat → Bool → Prop) (J : List Nat → Nat → Prop) (F : List Nat → Prop) (l0 : List Nat) (w : World)
    (hL : GLessM Q I Lb) (hS : GSwapM Q I) (hI : I w l0) (hj : j0 < l0.length) (hlen : l0.length ≤ 100000) (hJ0 : J l0 j0)
    (hJ : ∀ l j, J l j → 0 < j → j < l.length → Lb l j ((j - 1) / 2) true → J (swapL l ((j - 1) / 2) j) ((j - 1) / 2))
    (hF : ∀ l j, J l j → j < l.length → (j = 0 ∨ Lb l j ((j - 1) / 2) false) → F l) :
    Calls Yba.prog 28 #[.iface 93 (.pointer (some ⟨Q, 0, none⟩)), .int .i64 (j0 : Nat)] w fun e w' => e = .returned (.tuple #[]) ∧ ∃ l, I w' l ∧ F l ∧ l.length = l0.length := by
  have HL := Lib.hid hL
  have HS := Lib.hid hS
  have HI := Lib.hid hI
  have HJ0 := Lib.hid hJ0
  have HJ := Lib.hid hJ
  have HF := Lib.hid hF
  clear hL hS hI hJ0 hJ hF
  go_enter Yba.func28, Yba.ntmps28
  go_wp2
  go_loopg [1] j0 (fun g jv wr => ∃ (j : Nat) (l : List Nat), j ≤ g ∧ jv = .int .i64 (j : Nat) ∧ j < l.length ∧ l.length = l0.length ∧ I wr l ∧ J l j)
  case atStart => exact ⟨j0, l0, Nat.le_refl _, rfl, hj, rfl, HI.out, HJ0.out⟩
  case round =>
    obtain ⟨j, l, hjg, rfl, hjl, hll, hIr, hJr⟩ := hrel
    have HIr := Lib.hid hIr
    have HJr := Lib.hid hJr
    have Hll := Lib.hid hll
    have hjm : j < 100000 := by omega
    clear hIr hJr hll
    by_cases h0 : j = 0
    · subst h0
      go_wp2
      go_end0
      exact ⟨rfl, l, HIr.out, HF.out l 0 HJr.out hjl (.inl rfl), Hll.out⟩
    · obtain ⟨i, hi⟩ : ∃ i, (j - 1) / 2 = i := ⟨_, rfl⟩
      have hij : i < j := by omega
      have hJx := HJ.out l j HJr.out (by omega) hjl
      have hFx := HF.out l j HJr.out hjl
      rw [hi] at hJx hFx
      have HJx := Lib.hid hJx
      have HFx := Lib.hid hFx
      have ei : ((j : Int) - 1) / 2 = (i : Int) := by omega
      clear hi hJx hFx
      obtain ⟨v, hv, hcall⟩ := HL.out wr l j i HIr.out hjl (by omega)
      have hm := gmeth_less Q wr v hv
      have HC := Lib.hid hcall
      clear hcall hv
      have hd : ((i : Int) == (j : Int)) = false := by rw [beq_eq_false_iff_ne]; omega
      go_wp2_with fail
      refine HC.out.mono ?_
      rintro e w1 ⟨b, rfl, hLb, hI1⟩
      clear hm HC
      obtain ⟨v2, hv2, hcall2⟩ := HS.out w1 l i j hI1 (by omega) hjl (by omega)
      have hm2 := gmeth_swap Q w1 v2 hv2
      have HC2 := Lib.hid hcall2
      have HI1 := Lib.hid hI1
      have HLb := Lib.hid hLb
      clear hcall2 hv2 hI1 hLb
      cases b
      · go_wp2
        go_end0
        exact ⟨rfl, l, HI1.out, HFx.out (.inr HLb.out), Hll.out⟩
      · go_wp2_with fail
        refine HC2.out.mono ?_
        rintro e w2 ⟨rfl, hI2⟩
        have HI2 := Lib.hid hI2
        clear hI2 hm2 HC2
        go_wp2
        go_roundg i
        case measure => omega
        case rel => exact ⟨i, swapL l i j, Nat.le_refl _, rfl, by rw [swapL_length]; omega, by rw [swapL_length]; exact Hll.out, HI2.out, HJx.out HLb.out⟩

set_option maxRecDepth 100000 in
set_option maxHeartbeats 1600000 in
theorem gdown_any (Q i0 n : Nat) (I : World → List Nat → Prop) (Lb : List Nat → Nat → Nat → Bool → Prop) (J : List Nat → Nat → Prop) (F : List Nat → Nat → Prop) (l0 : List Nat) (w : World)
    (hL : GLessM Q I Lb) (hS : GSwapM Q I) (hI : I w l0) (hn : n ≤ l0.length) (hi0 : i0 < l0.length) (hlen : l0.length ≤ 100000) (hJ0 : J l0 i0)
    (hJ : ∀ l i j, J l i → i < n → 2 * i + 1 < n → (j = 2 * i + 1 ∧ (2 * i + 2 < n → Lb l (2 * i + 2) (2 * i + 1) false) ∨ j = 2 * i + 2 ∧ j < n ∧ Lb l (2 * i + 2) (2 * i + 1) true) → Lb l j i true → J (swapL l i j) j)
    (hF1 : ∀ l i, J l i → n ≤ 2 * i + 1 → F l i)
    (hF2 : ∀ l i j, J l i → 2 * i + 1 < n → (j = 2 * i + 1 ∧ (2 * i + 2 < n → Lb l (2 * i + 2) (2 * i + 1) false) ∨ j = 2 * i + 2 ∧ j < n ∧ Lb l (2 * i + 2) (2 * i + 1) true) → Lb l j i false → F l i) :
    Calls Yba.prog 31 #[.iface 93 (.pointer (some ⟨Q, 0, none⟩)), .int .i64 (i0 : Nat), .int .i64 (n : Nat)] w fun e w' => ∃ l i, e = .returned (.bool (decide (i0 < i))) ∧ I w' l ∧ F l i ∧ l.length = l0.length := by
  have HL := Lib.hid hL
  have HS := Lib.hid hS
  have HI := Lib.hid hI
  have HJ0 := Lib.hid hJ0
  have HJ := Lib.hid hJ
  have HF1 := Lib.hid hF1
  have HF2 := Lib.hid hF2
  clear hL hS hI hJ0 hJ hF1 hF2
  go_enter Yba.func31, Yba.ntmps31
  go_wp2
  go_loopg [7] (100000 - i0) (fun g iv wr => ∃ (i : Nat) (l : List Nat), i + g = 100000 ∧ iv = .int .i64 (i : Nat) ∧ i < l.length ∧ l.length = l0.length ∧ I wr l ∧ J l i)
  case atStart => exact ⟨i0, l0, by omega, rfl, hi0, rfl, HI.out, HJ0.out⟩
  case round =>
    obtain ⟨i, l, hig, rfl, hil, hll, hIr, hJr⟩ := hrel
    have HIr := Lib.hid hIr
    have HJr := Lib.hid hJr
    have Hll := Lib.hid hll
    have him : i < 100000 := by omega
    have hnl : n ≤ l.length := by omega
    clear hIr hJr hll
    by_cases h0 : n ≤ 2 * i + 1
    · have hd : decide ((n : Int) ≤ 2 * (i : Int) + 1) = true := by simp; omega
      go_wp2
      go_ret
      exact ⟨l, i, rfl, HIr.out, HF1.out l i HJr.out h0, Hll.out⟩
    · have hd : decide ((n : Int) ≤ 2 * (i : Int) + 1) = false := by simp; omega
      have hd2 : decide (2 * (i : Int) + 1 < 0) = false := by simp; omega
      by_cases h2 : 2 * i + 2 < n
      · have hd3 : decide (2 * (i : Int) + 1 + 1 < (n : Int)) = true := by simp; omega
        obtain ⟨v, hv, hcall⟩ := HL.out wr l (2 * i + 2) (2 * i + 1) HIr.out (by omega) (by omega)
        have hm := gmeth_less Q wr v hv
        rw [show ((2 * i + 2 : Nat) : Int) = 2 * (i : Int) + 1 + 1 by omega, show ((2 * i + 1 : Nat) : Int) = 2 * (i : Int) + 1 by omega] at hcall
        have HC := Lib.hid hcall
        clear hcall hv
        go_wp2_with fail
        refine HC.out.mono ?_
        rintro e w1 ⟨b, rfl, hLb, hI1⟩
        have HI1 := Lib.hid hI1
        have HLb := Lib.hid hLb
        clear hm HC hI1 hLb
        cases b
        · obtain ⟨v3, hv3, hcall3⟩ := HL.out w1 l (2 * i + 1) i HI1.out (by omega) (by omega)
          have hm3 := gmeth_less Q w1 v3 hv3
          rw [show ((2 * i + 1 : Nat) : Int) = 2 * (i : Int) + 1 by omega] at hcall3
          have HC3 := Lib.hid hcall3
          clear hcall3 hv3
          go_wp2_with fail
          refine HC3.out.mono ?_
          rintro e w3 ⟨b3, rfl, hLb3, hI3⟩
          clear hm3 HC3
          obtain ⟨v4, hv4, hcall4⟩ := HS.out w3 l i (2 * i + 1) hI3 (by omega) (by omega) (by omega)
          have hm4 := gmeth_swap Q w3 v4 hv4
          rw [show ((2 * i + 1 : Nat) : Int) = 2 * (i : Int) + 1 by omega] at hcall4
          have HC4 := Lib.hid hcall4
          have HI3 := Lib.hid hI3
          have HLb3 := Lib.hid hLb3
          clear hcall4 hv4 hI3 hLb3
          cases b3
          · go_wp2
            go_ret
            exact ⟨l, i, rfl, HI3.out, HF2.out l i (2 * i + 1) HJr.out (by omega) (.inl ⟨rfl, fun _ => HLb.out⟩) HLb3.out, Hll.out⟩
          · go_wp2_with fail
            refine HC4.out.mono ?_
            rintro e w4 ⟨rfl, hI4⟩
            have HI4 := Lib.hid hI4
            clear hI4 hm4 HC4
            go_wp2
            go_roundg (100000 - (2 * i + 1))
            case measure => omega
            case rel => exact ⟨2 * i + 1, swapL l i (2 * i + 1), by omega, val_int (by omega), by rw [swapL_length]; omega, by rw [swapL_length]; exact Hll.out, HI4.out, HJ.out l i (2 * i + 1) HJr.out (by omega) (by omega) (.inl ⟨rfl, fun _ => HLb.out⟩) HLb3.out⟩
        · obtain ⟨v3, hv3, hcall3⟩ := HL.out w1 l (2 * i + 2) i HI1.out (by omega) (by omega)
          have hm3 := gmeth_less Q w1 v3 hv3
          rw [show ((2 * i + 2 : Nat) : Int) = 2 * (i : Int) + 1 + 1 by omega] at hcall3
          have HC3 := Lib.hid hcall3
          clear hcall3 hv3
          go_wp2_with fail
          refine HC3.out.mono ?_
          rintro e w3 ⟨b3, rfl, hLb3, hI3⟩
          clear hm3 HC3
          obtain ⟨v4, hv4, hcall4⟩ := HS.out w3 l i (2 * i + 2) hI3 (by omega) (by omega) (by omega)
          have hm4 := gmeth_swap Q w3 v4 hv4
          rw [show ((2 * i + 2 : Nat) : Int) = 2 * (i : Int) + 1 + 1 by omega] at hcall4
          have HC4 := Lib.hid hcall4
          have HI3 := Lib.hid hI3
          have HLb3 := Lib.hid hLb3
          clear hcall4 hv4 hI3 hLb3
          cases b3
          · go_wp2
            go_ret
            exact ⟨l, i, rfl, HI3.out, HF2.out l i (2 * i + 2) HJr.out (by omega) (.inr ⟨rfl, by omega, HLb.out⟩) HLb3.out, Hll.out⟩
          · go_wp2_with fail
            refine HC4.out.mono ?_
            rintro e w4 ⟨rfl, hI4⟩
            have HI4 := Lib.hid hI4
            clear hI4 hm4 HC4
            go_wp2
            go_roundg (100000 - (2 * i + 2))
            case measure => omega
            case rel => exact ⟨2 * i + 2, swapL l i (2 * i + 2), by omega, val_int (by omega), by rw [swapL_length]; omega, by rw [swapL_length]; exact Hll.out, HI4.out, HJ.out l i (2 * i + 2) HJr.out (by omega) (by omega) (.inr ⟨rfl, by omega, HLb.out⟩) HLb3.out⟩
      · have hd3 : decide (2 * (i : Int) + 1 + 1 < (n : Int)) = false := by simp; omega
        obtain ⟨v3, hv3, hcall3⟩ := HL.out wr l (2 * i + 1) i HIr.out (by omega) (by omega)
        have hm3 := gmeth_less Q wr v3 hv3
        rw [show ((2 * i + 1 : Nat) : Int) = 2 * (i : Int) + 1 by omega] at hcall3
        have HC3 := Lib.hid hcall3
        clear hcall3 hv3
        go_wp2_with fail
        refine HC3.out.mono ?_
        rintro e w3 ⟨b3, rfl, hLb3, hI3⟩
        clear hm3 HC3
        obtain ⟨v4, hv4, hcall4⟩ := HS.out w3 l i (2 * i + 1) hI3 (by omega) (by omega) (by omega)
        have hm4 := gmeth_swap Q w3 v4 hv4
        rw [show ((2 * i + 1 : Nat) : Int) = 2 * (i : Int) + 1 by omega] at hcall4
        have HC4 := Lib.hid hcall4
        have HI3 := Lib.hid hI3
        have HLb3 := Lib.hid hLb3
        clear hcall4 hv4 hI3 hLb3
        cases b3
        · go_wp2
          go_ret
          exact ⟨l, i, rfl, HI3.out, HF2.out l i (2 * i + 1) HJr.out (by omega) (.inl ⟨rfl, fun h => absurd h h2⟩) HLb3.out, Hll.out⟩
        · go_wp2_with fail
          refine HC4.out.mono ?_
          rintro e w4 ⟨rfl, hI4⟩
          have HI4 := Lib.hid hI4
          clear hI4 hm4 HC4
          go_wp2
          go_roundg (100000 - (2 * i + 1))
          case measure => omega
          case rel => exact ⟨2 * i + 1, swapL l i (2 * i + 1), by omega, val_int (by omega), by rw [swapL_length]; omega, by rw [swapL_length]; exact Hll.out, HI4.out, HJ.out l i (2 * i + 1) HJr.out (by omega) (by omega) (.inl ⟨rfl, fun h => absurd h h2⟩) HLb3.out⟩
end Go.Proofs.Ybulkbyaq
