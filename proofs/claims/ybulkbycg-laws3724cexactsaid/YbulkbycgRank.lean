/-
  The walks of sentTo (a broadcast) and of rank.
-/
import Derived.Test.YbulkbycgBuild
import Derived.Lib.Hide
namespace Go.Proofs.Ybulkbycg
open Go.RowKit

set_option maxHeartbeats 400000 in
theorem sent_nil (W : World) (g len total : Nat) (c : Nat → Nat) (T : Nat → Option (List Int)) (h : GroupIs W g len total c T) (n : Nat) (j : Int) (hn : n < total) (_ht : total ≤ 2000) (hT : T n = none) :
    Calls Yba.prog 9 #[.pointer (some ⟨g, 0, none⟩), .int .i64 n, .int .i64 j] W fun e w' => e = .returned (.bool true) ∧ w' = W := by
  obtain ⟨b, X, h1, h2, _⟩ := h.tos
  have h3 := h2 n hn
  rw [toCell, hT] at h3
  clear h2 h hT
  have hse := fun (w : World) (a : Option Addr) (l k l' k' : Nat) => Lib.run_eql_slice_nil (P := Yba.prog) w 24 21 a l k l' k' Yba.underlying24
  go_enter Yba.func9, Yba.ntmps9
  go_wp2
  go_ret
  exact ⟨rfl, rfl⟩

theorem val_int {k : IntKind} {a b : Int} (h : a = b) : Value.int k a = .int k b := by rw [h]

/-- What sentTo answers in every world that keeps the group's memory. -/
def SentSaid (W : World) (g total : Nat) (j : Int) (f : Nat → Bool) : Prop :=
  ∀ n W', n < total → Below W.heap.size W W' → Calls Yba.prog 9 #[.pointer (some ⟨g, 0, none⟩), .int .i64 n, .int .i64 j] W' fun e w' => e = .returned (.bool (f n)) ∧ ∃ k, w' = W'.drewN k

/-- The row of ranks when s senders and k messages of the next are done. -/
structure Ranks (W wr : World) (R rl : Nat) (f : Nat → Bool) (c : Nat → Nat) (f0 : Nat → Value) (s k : Nat) (F : Nat → Value) : Prop where
  below : Below W.heap.size W wr
  row : wr.rowIs R 21 rl F
  done : ∀ s', s' < s → ∀ i, i < c s' % 8 → F (pre c s' + i) = .int .i32 (cnt f (pre c s') (i + 1) : Nat)
  cur : ∀ i, i < k → F (pre c s + i) = .int .i32 (cnt f (pre c s) (i + 1) : Nat)
  left : ∀ n, pre c s + k ≤ n → F n = f0 n

theorem Ranks.next {W wr : World} {R rl : Nat} {f : Nat → Bool} {c : Nat → Nat} {f0 : Nat → Value} {s k : Nat} {F : Nat → Value} (h : Ranks W wr R rl f c f0 s k F) (hk : k = c s % 8) : Ranks W wr R rl f c f0 (s + 1) 0 F := by
  refine ⟨h.below, h.row, fun s' hs i hi => ?_, fun i hi => absurd hi (Nat.not_lt_zero _), fun n hn => h.left n (by rw [pre_succ] at hn; omega)⟩
  by_cases e : s' = s
  · subst e; exact h.cur i (by omega)
  · exact h.done s' (by omega) i hi

theorem Ranks.step {W wr : World} {R rl : Nat} {f : Nat → Bool} {c : Nat → Nat} {f0 : Nat → Value} {s k : Nat} {F : Nat → Value} (h : Ranks W wr R rl f c f0 s k F) (hR : W.heap.size ≤ R) (v : Value) (hv : v = .int .i32 (cnt f (pre c s) (k + 1) : Nat)) (q : Nat) :
    Ranks W ((wr.drewN q).setCell ⟨R, pre c s + k, none⟩ v) R rl f c f0 s (k + 1) (fun n => if n = pre c s + k then v else F n) := by
  refine ⟨(below_drewN h.below q).setCell hR _, (h.row.of_block rfl : (wr.drewN q).rowIs R 21 rl F).set _ _, fun s' hs i hi => ?_, fun i hi => ?_, fun n hn => ?_⟩
  · have : pre c s' + i < pre c s := by
      have := pre_mono c (show s' + 1 ≤ s by omega)
      rw [pre_succ] at this
      omega
    show (if _ then _ else _) = _
    rw [if_neg (by omega)]
    exact h.done s' hs i hi
  · show (if _ then _ else _) = _
    by_cases e : i = k
    · subst e; rw [if_pos rfl]; exact hv
    · rw [if_neg (by omega)]; exact h.cur i (by omega)
  · show (if _ then _ else _) = _
    rw [if_neg (by omega)]
    exact h.left n (by omega)


set_option maxRecDepth 100000 in
set_option maxHeartbeats 800000 in
theorem rank_any (W : World) (g len rl R cap : Nat) (c : Nat → Nat) (T : Nat → Option (List Int)) (f : Nat → Bool) (j : Int) (f0 : Nat → Value) (w : World) (hlen : len ≤ 256)
    (hG : GroupIs W g len (pre c len) c T) (hS : SentSaid W g (pre c len) j f) (hb : Below W.heap.size W w) (hR : W.heap.size ≤ R) (hrow : w.rowIs R 21 rl f0) (hrl : pre c len ≤ rl) (hrl2 : rl ≤ 2000) :
    Calls Yba.prog 6 #[.pointer (some ⟨g, 0, none⟩), .slice (some ⟨R, 0, none⟩) rl cap, .int .i64 j] w fun e w' => e = .returned (.tuple #[]) ∧ ∃ F, Ranks W w' R rl f c f0 len 0 F := by
  obtain ⟨ofa, hof⟩ := (hG.kept hb).of
  have HG : Hid (GroupIs W g len (pre c len) c T) := hG
  have HS : Hid (SentSaid W g (pre c len) j f) := hS
  have HB : Hid (Below W.heap.size W w) := hb
  have HW : Hid (w.rowIs R 21 rl f0) := hrow
  clear hG hS hb hrow
  go_enter Yba.func6, Yba.ntmps6
  go_wp2
  clear hof
  go_loopg [14] len (fun gh i wr => ∃ s : Nat, s + gh = len ∧ i = .int .i64 s ∧ ∃ F, Ranks W wr R rl f c f0 s 0 F)
  case atStart => exact ⟨0, by omega, rfl, f0, HB.out, HW.out, fun s' hs => absurd hs (Nat.not_lt_zero _), fun i hi => absurd hi (Nat.not_lt_zero _), fun n _ => rfl⟩
  case round =>
    obtain ⟨s, hs, rfl, F, hF⟩ := hrel
    by_cases hlt : s < len
    · obtain ⟨bb, hg4, hbase⟩ := (HG.out.kept hF.below).base
      have b1 := hbase s (by omega)
      have hp := pre_le c s
      have hps := pre_mono c (show s + 1 ≤ len by omega)
      have HF : Hid (Ranks W wr R rl f c f0 s 0 F) := hF
      clear hF hbase
      go_wp2
      clear hg4 b1
      go_loopg [7, 8] (c s % 8) (fun gh cv i wi => ∃ k : Nat, k + gh = c s % 8 ∧ cv = .int .i32 (cnt f (pre c s) k : Nat) ∧ i = .int .i64 (pre c s + k : Nat) ∧ ∃ F, Ranks W wi R rl f c f0 s k F)
      case atStart => exact ⟨0, by omega, rfl, rfl, F, HF.out⟩
      case round =>
        obtain ⟨k, hk, rfl, rfl, F2, hF2⟩ := hrel
        obtain ⟨bb2, hg42, hbase2⟩ := (HG.out.kept hF2.below).base
        have b2 := hbase2 (s + 1) (by omega)
        have hps2 := pre_succ c s
        have Hps2 : Hid (pre c (s + 1) = pre c s + c s % 8) := hps2
        have hcl := cnt_le f (pre c s) k
        have HF2 : Hid (Ranks W wr R rl f c f0 s k F2) := hF2
        clear hbase2 hps2
        rw [Hps2.out] at b2 hps
        by_cases hlt2 : k < c s % 8
        · have c1 := hF2.row.cell (i := pre c s + k) (by omega)
          have f1 := hF2.row.frozen (pre c s + k)
          have hcs := cnt_succ f (pre c s) k
          have Hcs : Hid (cnt f (pre c s) (k + 1) = cnt f (pre c s) k + if f (pre c s + k) then 1 else 0) := hcs
          have h9 := HS.out (pre c s + k) wr (by omega) hF2.below
          rw [show ((pre c s + k : Nat) : Int) = (pre c s : Int) + (k : Int) by omega] at h9
          have H9 := Lib.hid h9
          clear hF2 hcs h9
          go_wp2_with fail
          refine H9.out.mono ?_
          rintro e w' ⟨rfl, q, rfl⟩
          clear H9
          cases hfk : f (pre c s + k)
          · have Hf : Hid (f (pre c s + k) = false) := hfk
            clear hfk
            go_wp2
            go_roundg (gk - 1)
            case measure => omega
            case rel => exact ⟨k + 1, by omega, val_int (by rw [Hcs.out, Hf.out]; simp), by go_num, _, HF2.out.step hR _ (val_int (by rw [Hcs.out, Hf.out]; simp)) q⟩
          · have Hf : Hid (f (pre c s + k) = true) := hfk
            clear hfk
            go_wp2
            go_roundg (gk - 1)
            case measure => omega
            case rel => exact ⟨k + 1, by omega, val_int (by rw [Hcs.out, Hf.out]; simp), by go_num, _, HF2.out.step hR _ (val_int (by rw [Hcs.out, Hf.out]; simp)) q⟩
        · have hke : k = c s % 8 := by omega
          clear hF2
          go_wp2
          go_roundg (len - (s + 1))
          case measure => omega
          case rel => exact ⟨s + 1, by omega, by go_num, F2, HF2.out.next hke⟩
    · have hse : s = len := by omega
      subst hse
      go_wp2
      go_end0
      exact ⟨rfl, F, hF⟩
end Go.Proofs.Ybulkbycg
