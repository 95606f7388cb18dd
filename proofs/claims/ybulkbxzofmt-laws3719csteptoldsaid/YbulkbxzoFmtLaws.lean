/-
  The walks of LawS3719CStep and LawS3719CTable.
-/
import Derived.Test.YbulkbxzoFmtPow
namespace Go.Proofs.YbulkbxzoFmt
open Go.RowKit

set_option maxHeartbeats 400000 in
theorem step_any (x : Int) (w : World) (h0 : 0 ≤ x) (h1 : x ≤ 65535) :
    Calls Ybaf.prog 5 #[.int .u16 x] w fun e w' => e = .returned (.bool true) ∧ w' = w := by
  obtain ⟨n, rfl⟩ := Int.eq_ofNat_of_zero_le h0
  have hk1 : 0 ≤ (n : Int) % 19 := by omega
  have hk2 : (n : Int) % 19 ≤ 18 := by omega
  go_enter Ybaf.func5, Ybaf.ntmps5
  go_wp2_with fail
  refine (pow10_int 0 _ (by omega) (by omega)).mono ?_
  rintro e w' ⟨rfl, rfl⟩
  rw [show ten (Int.toNat 0) = 1 from rfl]
  go_wp2_with fail
  refine (pow10_int _ _ (by omega) (by omega)).mono ?_
  rintro e w' ⟨rfl, rfl⟩
  rw [show ((n : Int) % 19 + 1).toNat = ((n : Int) % 19).toNat + 1 from by omega]
  go_wp2_with fail
  refine (pow10_int _ _ (by omega) (by omega)).mono ?_
  rintro e w' ⟨rfl, rfl⟩
  have hm : ((n : Int) % 19).toNat ≤ 18 := by omega
  generalize ((n : Int) % 19).toNat = m at *
  have hp := ten_pos m
  have hl := ten_le (m + 1) (by omega)
  rw [ten_succ] at hl ⊢
  have hq : (ten m * 10 == 10 * ten m) = true := by rw [beq_iff_eq]; omega
  go_wp2
  go_ret
  exact ⟨rfl, rfl⟩

/-- The table as the program lays it. -/
def tab : Array Value := #[.int .u64 1, .int .u64 10, .int .u64 100, .int .u64 1000, .int .u64 10000, .int .u64 100000, .int .u64 1000000, .int .u64 10000000, .int .u64 100000000, .int .u64 1000000000, .int .u64 10000000000, .int .u64 100000000000, .int .u64 1000000000000, .int .u64 10000000000000, .int .u64 100000000000000, .int .u64 1000000000000000, .int .u64 10000000000000000, .int .u64 100000000000000000, .int .u64 1000000000000000000, .int .u64 10000000000000000000]
theorem tab_size : tab.size = 20 := rfl
theorem tab_at (k : Nat) (hk : k ≤ 19) : tab[k]? = some (.int .u64 (ten k)) := by
  unfold tab ten
  match k, hk with
  | 0, _ => rfl
  | 1, _ => rfl
  | 2, _ => rfl
  | 3, _ => rfl
  | 4, _ => rfl
  | 5, _ => rfl
  | 6, _ => rfl
  | 7, _ => rfl
  | 8, _ => rfl
  | 9, _ => rfl
  | 10, _ => rfl
  | 11, _ => rfl
  | 12, _ => rfl
  | 13, _ => rfl
  | 14, _ => rfl
  | 15, _ => rfl
  | 16, _ => rfl
  | 17, _ => rfl
  | 18, _ => rfl
  | 19, _ => rfl
  | n + 20, h => omega

theorem wpList_built {P : Program} {ops : Array Oper} {rest : List Oper} {o : Oper} {a : Act} {w : World} {Q : Exit → Act → World → Prop} (hg : o.guard = none) (t : TypeId) (parts : Array (Nat × Operand)) (ho : o.op = .build t parts)
    (cells : Array Value) (hc : P.built t (parts.map fun (i, x) => (i, a.eval x)).toList = some cells)
    (h : wpList P ops Q rest (a.put o.dst (.agg cells)) w) : wpList P ops Q (o :: rest) a w := by
  refine wpList_build hg t parts ho (by rw [hc]; rfl) ?_
  rw [hc]
  exact h

theorem alloc_setRow (w : World) (old cs : Array Value) (t : TypeId) : (w.alloc (.cells old t)).setRow w.heap.size cs = w.alloc (.cells cs t) := by
  unfold World.setRow World.alloc
  congr 1
  apply Array.ext
  · simp
  · intro i h1 h2
    rw [Array.getElem_modify]
    simp only [Array.getElem_push]
    by_cases h : w.heap.size = i
    · subst h; simp
    · have : i < w.heap.size := by simp at h2; omega
      simp [h, this]

def zeros : Array Value := #[.int .u64 0, .int .u64 0, .int .u64 0, .int .u64 0, .int .u64 0, .int .u64 0, .int .u64 0, .int .u64 0, .int .u64 0, .int .u64 0, .int .u64 0, .int .u64 0, .int .u64 0, .int .u64 0, .int .u64 0, .int .u64 0, .int .u64 0, .int .u64 0, .int .u64 0, .int .u64 0]

theorem tab_one : ∀ v ∈ tab.toList, v.oneCell' = true := by
  intro v hv
  simp only [tab, List.mem_cons, List.not_mem_nil, or_false] at hv
  rcases hv with rfl | rfl | rfl | rfl | rfl | rfl | rfl | rfl | rfl | rfl | rfl | rfl | rfl | rfl | rfl | rfl | rfl | rfl | rfl | rfl <;> rfl

theorem store_tab (w : World) : (storeCells ⟨w.heap.size, 0, none⟩ tab.toList).run Ybaf.prog (w.alloc (.cells zeros 31)) = .ok () (w.alloc (.cells tab 31)) := by
  have h := run_storeCells_from (P := Ybaf.prog) w.heap.size 31 tab.toList 0 zeros (w.alloc (.cells zeros 31)) (by show (w.heap.push _)[w.heap.size]? = _; simp) rfl tab_one
  rw [alloc_setRow] at h
  simpa using h

set_option maxHeartbeats 400000 in
theorem table_any (k : Nat) (w : World) (h1 : k ≤ 19) :
    Calls Ybaf.prog 7 #[.int .i64 k] w fun e w' => e = .returned (.int .u64 (ten k)) ∧ Below w.heap.size w w' := by
  have ht := tab_at k h1
  have hz := tab_size
  have hst := store_tab w
  unfold zeros at hst
  go_enter Ybaf.func7, Ybaf.ntmps7
  go_wp2_with (refine wpList_built rfl 31 _ rfl tab (by kernel_rfl) ?_)
  go_ret
  exact ⟨rfl, (Below.refl _ _).alloc (Nat.le_refl _) _⟩

set_option maxHeartbeats 400000 in
theorem lawtable_any (x : Int) (w : World) (h0 : 0 ≤ x) (h1 : x ≤ 255) :
    Calls Ybaf.prog 3 #[.int .u8 x] w fun e w' => e = .returned (.bool true) ∧ Below w.heap.size w w' := by
  obtain ⟨n, rfl⟩ := Int.eq_ofNat_of_zero_le h0
  have hk1 : 0 ≤ (n : Int) % 20 := by omega
  have hk2 : (n : Int) % 20 ≤ 19 := by omega
  go_enter Ybaf.func3, Ybaf.ntmps3
  go_wp2_with fail
  obtain ⟨m, hm⟩ := Int.eq_ofNat_of_zero_le hk1
  rw [hm] at hk2 ⊢
  clear hm hk1
  refine (pow10_any m _ (by omega)).mono ?_
  rintro e w' ⟨rfl, rfl⟩
  go_wp2_with fail
  refine (table_any m _ (by omega)).mono ?_
  rintro e w' ⟨rfl, hb⟩
  go_wp2
  go_ret
  exact ⟨rfl, hb⟩
end Go.Proofs.YbulkbxzoFmt
