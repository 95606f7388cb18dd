/-
  The walks of zzs3721btime, zzs3721blater, later and (*groupQueue).next.
-/
import Derived.Test.YbulkbyaqQueue
namespace Go.Proofs.Ybulkbyaq
open Go.RowKit

/-- The later of two times. -/
def laterZ (t u : Int) : Int := if t < u then u else t

theorem bal {A B : World} (h : Below A.heap.size A B) (o : Obj) : Below A.heap.size A (B.alloc o) := h.alloc h.size _

theorem bset {n : Nat} {A B : World} (h : Below n A B) {b o : Nat} (hb : n ≤ b) (v : Value) : Below n A (B.setCell ⟨b, o, none⟩ v) := h.setCell hb v

theorem btime_any (n : Int) (w : World) (h0 : -9223372036854775808 ≤ n) (h1 : n ≤ 9223372036854775807) :
    Calls Yba.prog 6 #[.int .i64 n] w fun e w' => e = .returned (.agg (tm n)) ∧ Below w.heap.size w w' := by
  go_enter Yba.func6, Yba.ntmps6
  go_wp2_with fail
  refine (add_any 0 n _ (by unfold InTime; omega) h0 h1).mono ?_
  rintro e w' ⟨rfl, rfl⟩
  rw [Int.zero_add]
  unfold tm
  go_wp2
  exact bodyPost_ret (v := .agg (tm n)) (by simp [results, Yba.results6, go_sem, tm]) rfl ⟨rfl, bal (bal (bal (Below.refl _ w) _) _) _⟩

theorem blater_any (M N : Int) (w : World) :
    Calls Yba.prog 8 #[.agg (tm M), .agg (tm N)] w fun e w' => e = .returned (.agg (tm (laterZ M N))) ∧ Below w.heap.size w w' := by
  by_cases h : M < N
  · have e1 : laterZ M N = N := if_pos h
    have e2 := decide_eq_true h
    rw [e1]
    go_enter Yba.func8, Yba.ntmps8
    unfold tm
    go_wp2_with fail
    refine (after_any N M _).mono ?_
    rintro e w' ⟨rfl, rfl⟩
    rw [e2]
    unfold twoBoxes tm
    go_wp2
    exact bodyPost_ret (v := .agg (tm N)) (by simp [results, Yba.results8, go_sem, tm]) rfl ⟨rfl, bal (bal (bal (bal (bal (Below.refl _ w) _) _) _) _) _⟩
  · have e1 : laterZ M N = M := if_neg h
    have e2 := decide_eq_false h
    rw [e1]
    go_enter Yba.func8, Yba.ntmps8
    unfold tm
    go_wp2_with fail
    refine (after_any N M _).mono ?_
    rintro e w' ⟨rfl, rfl⟩
    rw [e2]
    unfold twoBoxes tm
    go_wp2
    exact bodyPost_ret (v := .agg (tm M)) (by simp [results, Yba.results8, go_sem, tm]) rfl ⟨rfl, bal (bal (bal (bal (bal (Below.refl _ w) _) _) _) _) _⟩

theorem row3 (w : World) (a b c : Value) (t : TypeId) : (w.alloc (.cells #[a, b, c] t)).rowIs w.heap.size t 3 (fun i => if i = 0 then a else if i = 1 then b else c) :=
  World.rowIs_alloc w #[a, b, c] t _ (fun i hi => match i, hi with | 0, _ => rfl | 1, _ => rfl | 2, _ => rfl)

/-- The latest of a time and a list of times. -/
def latestZ (t : Int) (us : List Int) : Int := us.foldl laterZ t

theorem getD_take_succ (us : List Int) (k : Nat) (h : k < us.length) (t : Int) : latestZ t (us.take (k + 1)) = laterZ (latestZ t (us.take k)) (us.getD k 0) := by
  have e : us.take (k + 1) = us.take k ++ [us.getD k 0] := by
    rw [List.take_succ_eq_append_getElem h, List.getD_eq_getElem?_getD, List.getElem?_eq_getElem h, Option.getD_some]
  rw [e]
  simp [latestZ]

set_option maxRecDepth 100000 in
set_option maxHeartbeats 800000 in
theorem later_any (N : Int) (us : List Int) (b cap : Nat) (w : World) (hlen : us.length ≤ 1000)
    (hc : ∀ k, k < us.length → w.cell? ⟨b, k * 3, none⟩ = some (.int .u64 (us.getD k 0 % 1000000000)) ∧ w.cell? ⟨b, k * 3 + 1, none⟩ = some (.int .i64 (us.getD k 0 / 1000000000)) ∧ w.cell? ⟨b, k * 3 + 2, none⟩ = some (.pointer none)) :
    Calls Yba.prog 25 #[.agg (tm N), .slice (some ⟨b, 0, none⟩) us.length cap] w fun e w' => e = .returned (.agg (tm (latestZ N us))) ∧ Below w.heap.size w w' := by
  have HC := Lib.hid hc
  clear hc
  go_enter Yba.func25, Yba.ntmps25
  unfold tm
  go_wp2
  go_loopg [9] us.length (fun g iv wr => ∃ (k : Nat) (f f' : Nat → Value) (T : Int), k + g = us.length ∧ iv = .int .i64 (k : Nat) ∧ Below w.heap.size w wr ∧ latestZ N (us.take k) = T ∧ wr.rowIs w.heap.size 27 3 f ∧ f 0 = .int .u64 (T % 1000000000) ∧ f 1 = .int .i64 (T / 1000000000) ∧ f 2 = .pointer none ∧ wr.rowIs (w.heap.size + 1) 27 3 f')
  case atStart =>
    have r0 := row3 w (.int .u64 (N % 1000000000)) (.int .i64 (N / 1000000000)) (.pointer none) 27
    have r1 := row3 (w.alloc (.cells #[.int .u64 (N % 1000000000), .int .i64 (N / 1000000000), .pointer none] 27)) (.int .u64 0) (.int .i64 0) (.pointer none) 27
    rw [World.size_alloc] at r1
    exact ⟨0, _, _, N, by omega, rfl, bal (bal (Below.refl _ w) _) _, rfl, r0.alloc _, rfl, rfl, rfl, r1⟩
  case round =>
    obtain ⟨k, f, f', T, hk, rfl, hbw, hT, hr, f0, f1, f2, hr'⟩ := hrel
    have HB := Lib.hid hbw
    have HT := Lib.hid hT
    have HF := Lib.hid (And.intro f0 (And.intro f1 f2))
    have HR := Lib.hid hr
    have HR' := Lib.hid hr'
    have t0 : wr.cell? ⟨w.heap.size, 0, none⟩ = some (.int .u64 (T % 1000000000)) := (hr.cell (by omega)).trans (by rw [f0])
    have t1 : wr.cell? ⟨w.heap.size, 1, none⟩ = some (.int .i64 (T / 1000000000)) := (hr.cell (by omega)).trans (by rw [f1])
    have t2 : wr.cell? ⟨w.heap.size, 2, none⟩ = some (.pointer none) := (hr.cell (by omega)).trans (by rw [f2])
    have z0 := hr.frozen 0
    have z1 := hr.frozen 1
    have z2 := hr.frozen 2
    have y0 := hr'.frozen 0
    have y1 := hr'.frozen 1
    have y2 := hr'.frozen 2
    have x0 := hr'.cell (i := 0) (by omega)
    have x1 := hr'.cell (i := 1) (by omega)
    have x2 := hr'.cell (i := 2) (by omega)
    have l0 := hr.lt
    have l1 := hr'.lt
    have l0' : w.heap.size < wr.heap.size + 1 := by omega
    have l1' : w.heap.size + 1 < wr.heap.size + 1 := by omega
    by_cases hlt : k < us.length
    · obtain ⟨c0, c1, c2⟩ := HC.out k hlt
      have d0 := cell_kept hbw c0
      have d1 := cell_kept hbw c1
      have d2 := cell_kept hbw c2
      have hb : b < wr.heap.size := by have := lt_of_cell c0; have := hbw.size; omega
      generalize hU : us.getD k 0 = U at d0 d1 d2
      have HU := Lib.hid hU
      clear hbw hT hr hr' c0 c1 c2 hU f0 f1 f2
      go_wp2_with fail
      refine (after_any U T _).mono ?_
      rintro e w' ⟨rfl, rfl⟩
      have hstep : latestZ N (us.take (k + 1)) = laterZ T U := by rw [getD_take_succ us k hlt, HT.out, HU.out]
      have HS := Lib.hid hstep
      clear hstep
      by_cases hc : T < U
      · have e2 := decide_eq_true hc
        have e3 : laterZ T U = U := if_pos hc
        rw [e2]
        unfold twoBoxes tm
        go_wp2
        go_roundg (us.length - (k + 1))
        case measure => omega
        case rel =>
          refine ⟨k + 1, _, f', laterZ T U, by omega, rfl, ?_, HS.out, (((((HR.out.set 0 _).set 1 _).set 2 _).alloc _).alloc _).alloc _, by rw [e3]; simp, by rw [e3]; simp, by simp, (((((HR'.out.setOther (by simp) _).setOther (by simp) _).setOther (by simp) _).alloc _).alloc _).alloc _⟩
          exact bal (bal (bal (bset (bset (bset HB.out (Nat.le_refl _) _) (Nat.le_refl _) _) (Nat.le_refl _) _) _) _) _
      · have e2 := decide_eq_false hc
        have e3 : laterZ T U = T := if_neg hc
        rw [e2]
        unfold twoBoxes tm
        go_wp2
        go_roundg (us.length - (k + 1))
        case measure => omega
        case rel =>
          exact ⟨k + 1, f, f', laterZ T U, by omega, rfl, bal (bal (bal HB.out _) _) _, HS.out, ((HR.out.alloc _).alloc _).alloc _, by rw [e3, HF.out.1], by rw [e3, HF.out.2.1], HF.out.2.2, ((HR'.out.alloc _).alloc _).alloc _⟩
    · have hke : k = us.length := by omega
      have hT2 : latestZ N us = T := by rw [← hT, hke, List.take_length]
      clear hbw hT hr hr' f0 f1 f2
      go_wp2
      rw [hT2]
      exact bodyPost_ret (v := .agg (tm T)) (by simp [results, Yba.results25, go_sem, tm, x0, x1, x2]) rfl ⟨rfl, bset (bset (bset HB.out (by omega) _) (by omega) _) (by omega) _⟩
end Go.Proofs.Ybulkbyaq
