/-
  slices.order2Ordered, medianOrdered, medianAdjacentOrdered at int32 (31, 29, 28).
-/
import Derived.Test.YbulkbycgSort0
import Derived.Sort.WalkD1
namespace Go.Proofs.Ybulkbycg
open Go.RowKit Go.Sort

/-- The row, and the counter of swaps in a block of its own. -/
structure SP (w wr : World) (B off n : Nat) (d : Array Int) (S s : Nat) : Prop where
  sw : SW w wr B off n d
  cnt : wr.rowIs S 3 1 (fun _ => .int .i64 s)
  new : w.heap.size ≤ S
  ne : S ≠ B

theorem SP.drewN {w wr : World} {B off n : Nat} {d : Array Int} {S s : Nat} (h : SP w wr B off n d S s) (q : Nat) : SP w (wr.drewN q) B off n d S s := ⟨h.sw.drewN q, h.cnt.of_block rfl, h.new, h.ne⟩
theorem SP.set {w wr : World} {B off n : Nat} {d : Array Int} {S s : Nat} (h : SP w wr B off n d S s) (t : Nat) : SP w (wr.setCell ⟨S, 0, none⟩ (.int .i64 t)) B off n d S t :=
  ⟨h.sw.setNew h.new h.ne _, (h.cnt.set 0 _).congr fun i hi => by rw [if_pos (by omega)], h.new, h.ne⟩

set_option maxRecDepth 100000 in
set_option maxHeartbeats 1000000 in
theorem order2_any (w wr : World) (B off n cap a b S s : Nat) (d : Array Int) (hS : SP w wr B off n d S s) (ha : a < n) (hb : b < n) (_hn : n ≤ 1024) (hs : s ≤ 1000) :
    Calls Yba.prog 31 #[.slice (some ⟨B, off, none⟩) n cap, .int .i64 a, .int .i64 b, .pointer (some ⟨S, 0, none⟩)] wr fun e w' => e = .returned (.tuple #[.int .i64 (order2 ltInt d a b s).1, .int .i64 (order2 ltInt d a b s).2.1]) ∧ SP w w' B off n d S (order2 ltInt d a b s).2.2 := by
  obtain ⟨G, HG, hc, hf⟩ := hS.sw.fam
  have c0 := hS.cnt.cell (i := 0) (by omega)
  have f0 := hS.cnt.frozen 0
  have HS := Lib.hid hS
  clear hS
  go_enter Yba.func31, Yba.ntmps31
  go_wp2
  go_quiet (first | (go_at_call 19; refine Calls.quiet_of_same (less_any _ _ _)))
  go_wp2
  · have hl : ltInt (G b) (G a) = true := by assumption
    have HR := Lib.hid (show order2 ltInt d a b s = (b, a, s + 1) by unfold order2; rw [← HG.out, ← HG.out, hl]; rfl)
    go_ret2
    rw [HR.out]
    exact ⟨rfl, (HS.out.drewN _).set (s + 1)⟩
  · have hl : ltInt (G b) (G a) = false := by assumption
    have HR := Lib.hid (show order2 ltInt d a b s = (a, b, s) by unfold order2; rw [← HG.out, ← HG.out, hl]; rfl)
    go_ret2
    rw [HR.out]
    exact ⟨rfl, HS.out.drewN _⟩

set_option maxRecDepth 100000 in
set_option maxHeartbeats 1000000 in
theorem median_any (w wr : World) (B off n cap a b c S s : Nat) (d : Array Int) (hS : SP w wr B off n d S s) (ha : a < n) (hb : b < n) (hc : c < n) (hn : n ≤ 1024) (hs : s ≤ 100) :
    Calls Yba.prog 29 #[.slice (some ⟨B, off, none⟩) n cap, .int .i64 a, .int .i64 b, .int .i64 c, .pointer (some ⟨S, 0, none⟩)] wr fun e w' => e = .returned (.int .i64 (median ltInt d a b c s).1) ∧ SP w w' B off n d S (median ltInt d a b c s).2 ∧ (median ltInt d a b c s).1 < n ∧ (median ltInt d a b c s).2 ≤ s + 3 := by
  have o1 := order2_lt d s ha hb
  have s1 := order2_swaps d a b s
  obtain ⟨r1, hr1⟩ : ∃ r, r = order2 ltInt d a b s := ⟨_, rfl⟩
  have o2 := order2_lt d r1.2.2 (hr1 ▸ o1.2) hc
  have s2 := order2_swaps d r1.2.1 c r1.2.2
  obtain ⟨r2, hr2⟩ : ∃ r, r = order2 ltInt d r1.2.1 c r1.2.2 := ⟨_, rfl⟩
  have o3 := order2_lt d r2.2.2 (hr1 ▸ o1.1) (hr2 ▸ o2.1)
  have s3 := order2_swaps d r1.1 r2.1 r2.2.2
  obtain ⟨r3, hr3⟩ : ∃ r, r = order2 ltInt d r1.1 r2.1 r2.2.2 := ⟨_, rfl⟩
  have hm : median ltInt d a b c s = (r3.2.1, r3.2.2) := by unfold median; simp only []; rw [← hr1, ← hr2, ← hr3]
  have h1 := order2_any w wr B off n cap a b S s d hS ha hb hn (by omega)
  rw [← hr1] at o1 s1 h1
  rw [← hr2] at o2 s2
  rw [← hr3] at o3 s3
  have H1 := Lib.hid h1
  have R2 := Lib.hid hr2
  have R3 := Lib.hid hr3
  rw [hm]
  clear h1 hr1 hr2 hr3 hm
  go_enter Yba.func29, Yba.ntmps29
  go_wp2_with fail
  refine H1.out.mono ?_
  rintro e w1 ⟨rfl, hS1⟩
  have h2 := order2_any w w1 B off n cap r1.2.1 c S r1.2.2 d hS1 o1.2 hc hn (by omega)
  rw [← R2.out] at h2
  have H2 := Lib.hid h2
  clear h2 H1 hS1 R2
  go_wp2_with fail
  refine H2.out.mono ?_
  rintro e w2 ⟨rfl, hS2⟩
  have h3 := order2_any w w2 B off n cap r1.1 r2.1 S r2.2.2 d hS2 o1.1 o2.1 hn (by omega)
  rw [← R3.out] at h3
  have H3 := Lib.hid h3
  clear h3 H2 hS2 R3
  go_wp2_with fail
  refine H3.out.mono ?_
  rintro e w3 ⟨rfl, hS3⟩
  have HS3 := Lib.hid hS3
  clear hS3
  go_wp2
  go_ret
  exact ⟨rfl, HS3.out, o3.2, by show r3.2.2 ≤ s + 3; omega⟩

set_option maxRecDepth 100000 in
set_option maxHeartbeats 1000000 in
theorem medadj_any (w wr : World) (B off n cap a S s : Nat) (d : Array Int) (hS : SP w wr B off n d S s) (ha : 1 ≤ a) (hb : a + 1 < n) (hn : n ≤ 1024) (hs : s ≤ 100) :
    Calls Yba.prog 28 #[.slice (some ⟨B, off, none⟩) n cap, .int .i64 a, .pointer (some ⟨S, 0, none⟩)] wr fun e w' => e = .returned (.int .i64 (medianAdjacent ltInt d a s).1) ∧ SP w w' B off n d S (medianAdjacent ltInt d a s).2 ∧ (medianAdjacent ltInt d a s).1 < n ∧ (medianAdjacent ltInt d a s).2 ≤ s + 3 := by
  have h1 := median_any w wr B off n cap (a - 1) a (a + 1) S s d hS (by omega) (by omega) hb hn hs
  rw [show ((a - 1 : Nat) : Int) = (a : Int) - 1 by omega, show ((a + 1 : Nat) : Int) = (a : Int) + 1 by omega] at h1
  have H1 := Lib.hid h1
  unfold medianAdjacent
  clear h1 hS
  go_enter Yba.func28, Yba.ntmps28
  go_wp2_with fail
  refine H1.out.mono ?_
  rintro e w1 ⟨rfl, hS1⟩
  have HS1 := Lib.hid hS1
  clear hS1 H1
  go_wp2
  go_ret
  exact ⟨rfl, HS1.out⟩
end Go.Proofs.Ybulkbycg
