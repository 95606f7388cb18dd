/-
  What popping the least does to a sorted list of what is left.
-/
import Derived.Test.YbulkbyaqHeapPlain
import Derived.Test.YbulkbyaqHeapCalls
namespace Go.Proofs.Ybulkbyaq

def leB (x y : Int) : Bool := decide (x ≤ y)
/-- The numbers in ascending order. -/
def asc (zs : List Int) : List Int := zs.mergeSort leB
theorem asc_perm (zs : List Int) : (asc zs).Perm zs := List.mergeSort_perm zs leB
theorem asc_sorted (zs : List Int) : (asc zs).Pairwise (fun x y => x ≤ y) := by
  have h := List.pairwise_mergeSort (le := leB) (fun a b c h1 h2 => by simp only [leB, decide_eq_true_eq] at *; omega) (fun a b => by simp only [leB, Bool.or_eq_true, decide_eq_true_eq]; omega) zs
  rw [List.pairwise_iff_getElem] at h ⊢
  intro i j hi hj hij
  have h2 := h i j hi hj hij
  exact of_decide_eq_true h2
theorem asc_length (zs : List Int) : (asc zs).length = zs.length := (asc_perm zs).length_eq

theorem pop_least (due : Nat → Int) (l l' : List Nat) (n m : Nat) (x : Int) (rest : List Int) (hl : l.length = n + 1) (hH : HeapK (keyOf due l) (n + 1)) (hp : (l.map due).Perm (x :: rest)) (hs : (x :: rest).Pairwise (fun x y => x ≤ y))
    (hm : m = l.getD 0 0) (hp' : (l' ++ [m]).Perm l) : due m = x ∧ (l'.map due).Perm rest := by
  have hml : m ∈ l := by rw [hm]; exact getD_mem l 0 (by omega)
  have h1 : x ≤ due m := by
    have : due m ∈ x :: rest := hp.mem_iff.1 (List.mem_map.2 ⟨m, hml, rfl⟩)
    rcases List.mem_cons.1 this with e | e
    · omega
    · exact (List.pairwise_cons.1 hs).1 _ e
  have h2 : due m ≤ x := by
    have : x ∈ l.map due := hp.mem_iff.2 (List.mem_cons_self ..)
    obtain ⟨k, hk, rfl⟩ := List.mem_map.1 this
    obtain ⟨i, hi, e⟩ := List.mem_iff_getElem.1 hk
    have := heap_root (keyOf due l) (n + 1) hH i (by omega)
    unfold keyOf at this
    rw [← hm] at this
    simp only [List.getD, List.getElem?_eq_getElem hi, Option.getD_some] at this
    rw [e] at this
    exact this
  have he : due m = x := by omega
  refine ⟨he, ?_⟩
  have h3 : ((l' ++ [m]).map due).Perm (x :: rest) := (hp'.map due).trans hp
  rw [List.map_append, List.map_cons, List.map_nil, he] at h3
  exact ((List.perm_append_comm.trans h3 : ([x] ++ l'.map due).Perm (x :: rest))).cons_inv
end Go.Proofs.Ybulkbyaq
