/-
  sentTo (9) and zzs3724csent (7): both ask whether j is in the list.
-/
import Derived.Test.YbulkbycgBuild2
import Derived.Test.YbulkbycgRank
namespace Go.Proofs.Ybulkbycg
open Go.RowKit Go.Sort

/-- Was message n sent to j? -/
def sentB (T : Nat → Option (List Int)) (j : Int) (n : Nat) : Bool := match T n with
  | none => true
  | some l => decide (j ∈ l)

theorem mem_iff (l : List Int) (j : Int) : decide (j ∈ l) = true ↔ ∃ x, x < l.length ∧ l.getD x 0 = j := by
  rw [decide_eq_true_iff, List.mem_iff_getElem]
  constructor
  · rintro ⟨i, h, e⟩; exact ⟨i, h, by simpa [List.getD, h] using e⟩
  · rintro ⟨i, h, e⟩; exact ⟨i, h, by simpa [List.getD, h] using e⟩

set_option maxRecDepth 100000 in
set_option maxHeartbeats 1000000 in
theorem sent_some (W : World) (g len total : Nat) (c : Nat → Nat) (T : Nat → Option (List Int)) (h : GroupIs W g len total c T) (n : Nat) (j : Int) (hn : n < total) (_ht : total ≤ 2000) (l : List Int) (hT : T n = some l) (hl : l.length ≤ 1024) (hs : Srt l) (hj0 : -2147483648 ≤ j) (hj1 : j ≤ 2147483647) :
    Calls Yba.prog 9 #[.pointer (some ⟨g, 0, none⟩), .int .i64 n, .int .i64 j] W fun e w' => e = .returned (.bool (decide (j ∈ l))) ∧ ∃ q, w' = W.drewN q := by
  obtain ⟨b, X, h1, h2, h4⟩ := h.tos
  have h3 := h2 n hn
  have hb := bsearch_any W (X n) 0 l.length l.length (fun x => l.getD x 0) j (decide (j ∈ l)) (fun x hx => by rw [Nat.zero_add]; exact h4 n hn l hT x hx) hs hl (mem_iff l j)
  rw [toCell, hT] at h3
  have HB := Lib.hid hb
  obtain ⟨r, hr⟩ : ∃ r, r = decide (j ∈ l) := ⟨_, rfl⟩
  rw [← hr] at HB ⊢
  clear h2 h hT h4 hb hr
  have hse := fun (w : World) (a : Option Addr) (l k l' k' : Nat) => Lib.run_eql_slice_nil (P := Yba.prog) w 24 21 a l k l' k' Yba.underlying24
  go_enter Yba.func9, Yba.ntmps9
  go_wp2_with fail
  refine HB.out.mono ?_
  rintro e w' ⟨i, rfl, hq⟩
  go_wp2
  go_ret
  exact ⟨rfl, hq⟩

/-- sentTo's answer in every world that keeps the group. -/
theorem sent_said (W : World) (g len total : Nat) (c : Nat → Nat) (T : Nat → Option (List Int)) (h : GroupIs W g len total c T) (hA : AllSrt T) (ht : total ≤ 2000) (j : Int) (hj0 : -2147483648 ≤ j) (hj1 : j ≤ 2147483647) : SentSaid W g total j (sentB T j) := fun n W' hn hb => by
  cases hT : T n with
  | none =>
    rw [show sentB T j n = true by simp [sentB, hT]]
    exact (sent_nil W' g len total c T (h.kept hb) n j hn ht hT).mono fun e w' h => ⟨h.1, 0, h.2⟩
  | some l =>
    rw [show sentB T j n = decide (j ∈ l) by simp [sentB, hT]]
    exact sent_some W' g len total c T (h.kept hb) n j hn ht l hT (hA n l hT).1 (hA n l hT).2 hj0 hj1

set_option maxHeartbeats 1000000 in
theorem csent_nil (W : World) (j : Int) : Calls Yba.prog 7 #[.slice none 0 0, .int .i32 j] W fun e w' => e = .returned (.bool true) ∧ w' = W := by
  have hse := fun (w : World) (a : Option Addr) (l k l' k' : Nat) => Lib.run_eql_slice_nil (P := Yba.prog) w 24 21 a l k l' k' Yba.underlying24
  go_enter Yba.func7, Yba.ntmps7
  go_wp2
  go_ret
  exact ⟨rfl, rfl⟩

set_option maxRecDepth 100000 in
set_option maxHeartbeats 1000000 in
theorem csent_some (W : World) (B : Nat) (l : List Int) (j : Int) (hl : l.length ≤ 1024) (hc : ∀ x, x < l.length → W.cell? ⟨B, x, none⟩ = some (.int .i32 (l.getD x 0))) :
    Calls Yba.prog 7 #[.slice (some ⟨B, 0, none⟩) l.length l.length, .int .i32 j] W fun e w' => e = .returned (.bool (decide (j ∈ l))) ∧ ∃ q, w' = W.drewN q := by
  have HM := Lib.hid (mem_iff l j)
  obtain ⟨r, hr⟩ : ∃ r, r = decide (j ∈ l) := ⟨_, rfl⟩
  obtain ⟨L, hL⟩ : ∃ L, L = l.length := ⟨_, rfl⟩
  obtain ⟨G, hG⟩ : ∃ G : Nat → Int, ∀ x, G x = l.getD x 0 := ⟨fun x => l.getD x 0, fun _ => rfl⟩
  have HR : Hid (r = true ↔ ∃ x, x < L ∧ G x = j) := by
    show r = true ↔ ∃ x, x < L ∧ G x = j
    rw [hr, hL, HM.out]
    simp only [hG]
  have hc2 : ∀ x, x < L → W.cell? ⟨B, x, none⟩ = some (.int .i32 (G x)) := fun x hx => by rw [hG]; exact hc x (by omega)
  rw [← hr, ← hL]
  rw [← hL] at hl
  clear hc hr hL hG HM
  have hse := fun (w : World) (a : Option Addr) (l k l' k' : Nat) => Lib.run_eql_slice_nil (P := Yba.prog) w 24 21 a l k l' k' Yba.underlying24
  go_enter Yba.func7, Yba.ntmps7
  go_wp2
  go_loopg [5] L (fun g vi wi => ∃ (i : Nat), vi = .int .i64 i ∧ i + g = L ∧ (∀ x, x < i → G x ≠ j) ∧ ∃ q, wi = W.drewN q)
  case atStart => exact ⟨0, rfl, by omega, fun x hx => absurd hx (Nat.not_lt_zero _), 0, rfl⟩
  case round =>
    obtain ⟨i, rfl, hg, hne, q, hw⟩ := hrel
    have HN := Lib.hid hne
    have HW := Lib.hid hw
    by_cases hi : i < L
    · have hci := hc2 i hi
      have hcw : wr.cell? ⟨B, i, none⟩ = some (.int .i32 (G i)) := by rw [hw]; exact hci
      clear hne hw hc2 hci
      by_cases he : G i = j
      · go_wp2
        go_ret
        refine ⟨?_, q, HW.out⟩
        rw [HR.out.2 ⟨i, hi, he⟩]
        rfl
      · go_wp2
        go_roundg (gk - 1)
        case measure => omega
        case rel =>
          refine ⟨i + 1, by go_num, by omega, fun x hx => ?_, q, HW.out⟩
          by_cases e : x = i
          · subst e; exact he
          · exact HN.out x (by omega)
    · clear hne hw
      go_wp2
      go_ret
      refine ⟨?_, q, HW.out⟩
      have : r = false := by
        cases hr : r
        · rfl
        · obtain ⟨x, hx, e⟩ := HR.out.1 hr
          exact absurd e (HN.out x (by omega))
      rw [this]
      rfl
end Go.Proofs.Ybulkbycg
