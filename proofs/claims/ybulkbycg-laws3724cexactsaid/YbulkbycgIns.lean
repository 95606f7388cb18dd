/-
  slices.insertionSortOrdered at int32 (13).
-/
import Derived.Test.YbulkbycgSort0
namespace Go.Proofs.Ybulkbycg
open Go.RowKit Go.Sort

set_option maxRecDepth 100000 in
set_option maxHeartbeats 1000000 in
theorem ins_any (w wr : World) (B off n cap a b : Nat) (d : Array Int) (hS : SW w wr B off n d) (hab : a ≤ b) (hb : b ≤ n) (hn : n ≤ 1024) :
    Calls Yba.prog 13 #[.slice (some ⟨B, off, none⟩) n cap, .int .i64 a, .int .i64 b] wr fun e w' => e = .returned (.tuple #[]) ∧ SW w w' B off n (insertionSort ltInt d a b) := by
  go_enter Yba.func13, Yba.ntmps13
  go_wp2
  go_loopg [6] (b + 1) (fun g vi wi => ∃ (i : Nat) (e : Array Int), i + g = b + 1 + (a + 1) ∧ vi = .int .i64 i ∧ a < i ∧ SW w wi B off n e ∧ insOuter ltInt a b i e = insertionSort ltInt d a b)
  case atStart => exact ⟨a + 1, d, by omega, by go_num, by omega, hS, rfl⟩
  case round =>
    obtain ⟨i, e, hg, rfl, hai, hSi, hO⟩ := hrel
    have HO := Lib.hid hO
    have HS := Lib.hid hSi
    clear hO hSi hS
    by_cases hib : i < b
    · go_wp2
      go_loopg [7] i (fun gj vj wj => ∃ (f : Array Int), vj = .int .i64 gj ∧ a ≤ gj ∧ gj ≤ i ∧ SW w wj B off n f ∧ insInner ltInt a gj f = insInner ltInt a i e)
      case atStart => exact ⟨e, rfl, by omega, by omega, HS.out, rfl⟩
      case round =>
        obtain ⟨f, rfl, haj, hji, hSj, hI⟩ := hrel
        have HI := Lib.hid hI
        obtain ⟨G, HG, hc, hf⟩ := hSj.fam
        have HSj := Lib.hid hSj
        clear hI hSj
        obtain ⟨j, hjg⟩ : ∃ j, j = gk := ⟨_, rfl⟩
        subst hjg
        by_cases hja : a < j
        · cases hl : ltInt (G j) (G (j - 1))
          · have HL := Lib.hid hl
            go_wp2
            go_quiet (first | (go_at_call 19; refine Calls.quiet_of_same (less_any _ _ _)))
            go_wp2
            go_roundg (b + 1 + (a + 1) - (i + 1))
            case measure => omega
            case rel => exact ⟨i + 1, f, by omega, by go_num, by omega, HSj.out.drewN _, by rw [← HO.out, insOuter_go _ _ _ _ _ hib, ← HI.out, insInner_stop _ _ _ _ (.inr (by rw [← HG.out, ← HG.out]; exact HL.out))]⟩
          · have HL := Lib.hid hl
            go_wp2
            go_quiet (first | (go_at_call 19; refine Calls.quiet_of_same (less_any _ _ _)))
            go_wp2
            go_region
            all_goals go_wp2
            go_roundg (j - 1)
            case measure => omega
            case rel => exact ⟨Sort.swp f j (j - 1), by go_num, by omega, by omega, HSj.out.swpG HG (nq + 1) j (j - 1) (by omega) (by omega), by rw [← HI.out, insInner_go ltInt a j f hja (by rw [← HG.out, ← HG.out]; exact HL.out)]⟩
        · go_wp2
          go_quiet (first | (go_at_call 19; refine Calls.quiet_of_same (less_any _ _ _)))
          go_wp2
          go_roundg (b + 1 + (a + 1) - (i + 1))
          case measure => omega
          case rel => exact ⟨i + 1, f, by omega, by go_num, by omega, HSj.out.drewN _, by rw [← HO.out, insOuter_go _ _ _ _ _ hib, ← HI.out, insInner_stop _ _ _ _ (.inl (by omega))]⟩
    · go_wp2
      go_end0
      exact ⟨rfl, by rw [← HO.out, insOuter_stop _ _ _ _ _ hib]; exact HS.out⟩
end Go.Proofs.Ybulkbycg
