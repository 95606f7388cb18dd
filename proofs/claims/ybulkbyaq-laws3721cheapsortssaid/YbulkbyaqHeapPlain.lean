/-
  Binary heaps, plainly: what a swap towards the root, and one towards the leaves, leaves of the heap's order.
-/
namespace Go.Proofs.Ybulkbyaq

/-- The keys with two of them exchanged. -/
def swapK (K : Nat → Int) (i j : Nat) : Nat → Int := fun k => if k = j then K i else if k = i then K j else K k

/-- The heap's order on the first n places. -/
def HeapK (K : Nat → Int) (n : Nat) : Prop := ∀ k, 0 < k → k < n → K ((k - 1) / 2) ≤ K k

/-- The heap's order but at place j, whose key may be too small. -/
def UpInv (K : Nat → Int) (n j : Nat) : Prop :=
  (∀ k, 0 < k → k < n → k ≠ j → K ((k - 1) / 2) ≤ K k) ∧ (∀ k, 0 < k → k < n → (k - 1) / 2 = j → 0 < j → K ((j - 1) / 2) ≤ K k)

/-- The heap's order but at place i, whose key may be too great. -/
def DownInv (K : Nat → Int) (n i : Nat) : Prop :=
  (∀ k, 0 < k → k < n → (k - 1) / 2 ≠ i → K ((k - 1) / 2) ≤ K k) ∧ (∀ k, 0 < k → k < n → (k - 1) / 2 = i → 0 < i → K ((i - 1) / 2) ≤ K k)

theorem swapK_left (K : Nat → Int) (i j : Nat) (h : i ≠ j) : swapK K i j i = K j := by simp [swapK, h]
theorem swapK_right (K : Nat → Int) (i j : Nat) : swapK K i j j = K i := by simp [swapK]
theorem swapK_other (K : Nat → Int) (i j k : Nat) (h1 : k ≠ i) (h2 : k ≠ j) : swapK K i j k = K k := by simp [swapK, h1, h2]

theorem up_step (K : Nat → Int) (n j : Nat) (h : UpInv K n j) (h0 : 0 < j) (hj : j < n) (hlt : K j < K ((j - 1) / 2)) : UpInv (swapK K ((j - 1) / 2) j) n ((j - 1) / 2) := by
  obtain ⟨h1, h2⟩ := h
  obtain ⟨i, hi⟩ : ∃ i, (j - 1) / 2 = i := ⟨_, rfl⟩
  rw [hi] at hlt h2 ⊢
  have hij : i < j := by omega
  refine ⟨fun k k0 kn ki => ?_, fun k k0 kn kp i0 => ?_⟩
  · by_cases kj : k = j
    · subst kj
      rw [hi, swapK_left K i k (by omega), swapK_right]
      omega
    · rw [swapK_other K i j k ki kj]
      by_cases p1 : (k - 1) / 2 = j
      · rw [p1, swapK_right]
        exact h2 k k0 kn p1 h0
      · by_cases p2 : (k - 1) / 2 = i
        · have := h1 k k0 kn kj
          rw [p2] at this ⊢
          rw [swapK_left K i j (by omega)]
          omega
        · rw [swapK_other K i j _ p2 p1]
          exact h1 k k0 kn kj
  · rw [swapK_other K i j ((i - 1) / 2) (by omega) (by omega)]
    have hpi := h1 i i0 (by omega) (by omega)
    by_cases kj : k = j
    · subst kj
      rw [swapK_right]
      exact hpi
    · rw [swapK_other K i j k (by omega) kj]
      have := h1 k k0 kn kj
      rw [kp] at this
      omega

theorem up_done (K : Nat → Int) (n j : Nat) (h : UpInv K n j) (hd : j = 0 ∨ K ((j - 1) / 2) ≤ K j) : HeapK K n := by
  intro k k0 kn
  by_cases e : k = j
  · subst e
    rcases hd with hd | hd
    · omega
    · exact hd
  · exact h.1 k k0 kn e

theorem down_step (K : Nat → Int) (n i j : Nat) (h : DownInv K n i) (hj : j = 2 * i + 1 ∧ (2 * i + 2 < n → K (2 * i + 1) ≤ K (2 * i + 2)) ∨ j = 2 * i + 2 ∧ K (2 * i + 2) < K (2 * i + 1)) (hjn : j < n) (hlt : K j < K i) :
    DownInv (swapK K i j) n j := by
  obtain ⟨h1, h2⟩ := h
  have hij : i < j := by omega
  have hpj : (j - 1) / 2 = i := by omega
  refine ⟨fun k k0 kn kp => ?_, fun k k0 kn kp j0 => ?_⟩
  · by_cases p : (k - 1) / 2 = i
    · rw [p, swapK_left K i j (by omega)]
      by_cases kj : k = j
      · subst kj
        rw [swapK_right]
        omega
      · rw [swapK_other K i j k (by omega) kj]
        rcases hj with ⟨e, ho⟩ | ⟨e, ho⟩
        · have : k = 2 * i + 2 := by omega
          subst this
          rw [e]
          exact ho kn
        · have : k = 2 * i + 1 := by omega
          subst this
          rw [e]
          omega
    · rw [swapK_other K i j _ p kp]
      by_cases ki : k = i
      · subst ki
        rw [swapK_left K k j (by omega)]
        have := h2 j (by omega) hjn hpj k0
        exact this
      · have kj : k ≠ j := fun e => p (by rw [e]; exact hpj)
        rw [swapK_other K i j k ki kj]
        exact h1 k k0 kn p
  · rw [hpj, swapK_left K i j (by omega), swapK_other K i j k (by omega) (by omega)]
    have := h1 k k0 kn (by omega)
    rw [kp] at this
    exact this

theorem down_done_leaf (K : Nat → Int) (n i : Nat) (h : DownInv K n i) (hl : n ≤ 2 * i + 1) : HeapK K n :=
  fun k k0 kn => h.1 k k0 kn (by omega)

theorem down_done (K : Nat → Int) (n i j : Nat) (h : DownInv K n i) (hj : j = 2 * i + 1 ∧ (2 * i + 2 < n → K (2 * i + 1) ≤ K (2 * i + 2)) ∨ j = 2 * i + 2 ∧ K (2 * i + 2) < K (2 * i + 1)) (hle : K i ≤ K j) : HeapK K n := by
  intro k k0 kn
  by_cases p : (k - 1) / 2 = i
  · rw [p]
    have : k = 2 * i + 1 ∨ k = 2 * i + 2 := by omega
    rcases hj with ⟨e, ho⟩ | ⟨e, ho⟩
    · subst e
      rcases this with e | e
      · rw [e]; exact hle
      · subst e; have := ho kn; omega
    · subst e
      rcases this with e | e
      · rw [e]; omega
      · rw [e]; exact hle
  · exact h.1 k k0 kn p

/-- The root bears the least key. -/
theorem heap_root (K : Nat → Int) (n : Nat) (h : HeapK K n) : ∀ k, k < n → K 0 ≤ K k := by
  intro k
  induction k using Nat.strongRecOn with
  | _ k ih =>
    intro hk
    by_cases h0 : k = 0
    · subst h0; exact Int.le_refl _
    · have h1 := ih ((k - 1) / 2) (by omega) (by omega)
      have h2 := h k (by omega) hk
      omega

/-- One place more at the end: the order holds but there. -/
theorem heap_push (K : Nat → Int) (n : Nat) (h : HeapK K n) : UpInv K (n + 1) n :=
  ⟨fun k k0 kn kj => h k k0 (by omega), fun k k0 kn kp _ => by omega⟩

/-- The root taken away and the last one laid there. -/
theorem heap_pop (K K' : Nat → Int) (n : Nat) (h : HeapK K (n + 1)) (hK : ∀ k, 0 < k → k < n → K' k = K k) : DownInv K' n 0 :=
  ⟨fun k k0 kn kp => by
    rw [hK k k0 kn, hK ((k - 1) / 2) (by omega) (by omega)]
    exact h k k0 (by omega), fun _ _ _ _ h0 => absurd h0 (Nat.lt_irrefl 0)⟩
end Go.Proofs.Ybulkbyaq
