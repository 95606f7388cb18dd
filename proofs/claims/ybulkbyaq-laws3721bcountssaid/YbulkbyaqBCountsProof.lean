/-
  The law 'pulsewell.LawS3721BCounts', proved: for every slice of groups, every slice of slots and every int64 the call returns true and writes nothing that was there.
-/
import Derived.Test.YbulkbyaqRows
import Derived.Test.YbulkbyaqLaw
import Derived.Test.YbulkbyaqBCountsOpen
import Derived.WalkKit
import Derived.ProofKit
import Derived.OpenShut
import Derived.ShutString
import Derived.ChangeOld
import Derived.Below
namespace Go.Proofs.Ybulkbyaq.lawS3721BCounts
open Go.ChangeShapes Go.WideShapes Go.ChangeAt Go.RowKit
open Go.ChangeMaps (open_string shut_string)
set_option linter.unusedVariables false

theorem own : ownKnob Yba.prog.godebug = none := by kernel_rfl
theorem laidOut : laidOutB Yba.prog = true := by kernel_rfl

set_option maxRecDepth 100000 in
set_option maxHeartbeats 400000 in
theorem walk_long0 (a0 : Option Addr) (n cap0 : Nat) (a1 : Option Addr) (m cap1 : Nat) (now : Int) (w : World) (h : 512 < (n : Int)) :
    Calls Yba.prog 3 #[.slice a0 n cap0, .slice a1 m cap1, .int .i64 now] w fun e w' => e = .returned (.bool true) ∧ Below w.heap.size w w' := by
  go_enter Yba.func3, Yba.ntmps3
  go_wp2
  go_ret
  exact ⟨rfl, Below.refl _ _⟩

set_option maxRecDepth 100000 in
set_option maxHeartbeats 400000 in
theorem walk_long1 (a0 : Option Addr) (n cap0 : Nat) (a1 : Option Addr) (m cap1 : Nat) (now : Int) (w : World) (h0 : ¬ 512 < (n : Int)) (h : 512 < (m : Int)) :
    Calls Yba.prog 3 #[.slice a0 n cap0, .slice a1 m cap1, .int .i64 now] w fun e w' => e = .returned (.bool true) ∧ Below w.heap.size w w' := by
  go_enter Yba.func3, Yba.ntmps3
  go_wp2
  go_ret
  exact ⟨rfl, Below.refl _ _⟩

set_option maxRecDepth 100000 in
set_option maxHeartbeats 400000 in
theorem walk_none (a0 : Option Addr) (cap0 : Nat) (a1 : Option Addr) (m cap1 : Nat) (now : Int) (w : World) (h : ¬ 512 < (m : Int)) :
    Calls Yba.prog 3 #[.slice a0 0 cap0, .slice a1 m cap1, .int .i64 now] w fun e w' => e = .returned (.bool true) ∧ Below w.heap.size w w' := by
  go_enter Yba.func3, Yba.ntmps3
  go_wp2
  go_ret
  exact ⟨rfl, Below.refl _ _⟩

theorem walk (a0 : Option Addr) (n cap0 : Nat) (a1 : Option Addr) (m cap1 : Nat) (now : Int) (w : World) (G : Nat → (Int × Int × Int × Int × Bool)) (U : Nat → (Nat × Bool × Int))
    (hG : ∀ i, i < n → GAt w a0 i (G i)) (hU : ∀ i, i < m → UAt w a1 i (U i)) (hnow : In64 now) :
    Calls Yba.prog 3 #[.slice a0 n cap0, .slice a1 m cap1, .int .i64 now] w fun e w' => e = .returned (.bool true) ∧ Below w.heap.size w w' := by
  by_cases h0 : 512 < n
  · exact walk_long0 a0 n cap0 a1 m cap1 now w (by omega)
  · by_cases h1 : 512 < m
    · exact walk_long1 a0 n cap0 a1 m cap1 now w (by omega) (by omega)
    · by_cases h2 : n = 0
      · subst h2
        exact walk_none a0 cap0 a1 m cap1 now w (by omega)
      · exact bcounts_any a0 n cap0 a1 m cap1 ⟨fun i => (G i).1, fun i => (G i).2.1, fun i => (G i).2.2.1, fun i => (G i).2.2.2.1, fun i => (G i).2.2.2.2, fun i => (U i).1, fun i => (U i).2.1, fun i => (U i).2.2⟩ now w (by omega) (by omega) (by omega) hG hU hnow

/-! ### The row's step -/
set_option maxRecDepth 100000 in
theorem lifted (os : Os) (started : os.Started) (H : Type) (enc : TypeId × Value → H) :
    ReturnsInHanded {} Yba.checked os 3 .any (Rows.lawS3721BCountsSpec.pre6 enc Yba.prog Yba.f3 Rows.lawS3721BCountsRow.domain false) (Rows.lawS3721BCountsSpec.post enc Yba.prog Yba.f3 false true false false) := by
  refine returnsInHanded_of_change (C := Yba.checked) own started (by kernel_rfl) Yba.func3
    (ChangeSpec.witness6 (enc := enc) (C := Yba.checked) false ⟨#[], #[.slice none 0 0, .slice none 0 0, .int .i64 0], []⟩ 8 (by kernel_rfl) (by kernel_rfl) (by kernel_rfl) (by kernel_rfl)) ?_
  intro W base args ds gs before hval0 hW hcnd _
  have hval : ∀ (j : Nat) t v, Yba.f3.params[j]? = some t → args[j]? = some v → Value.okWide Yba.prog W .any base t v := hval0
  have hW' := hW
  obtain ⟨p, q, hA0, hV, rfl, hfz, hnd⟩ := hW
  have hA : DataW.TrodAll enc Yba.prog W 0 (fun _ => true) true Yba.f3.params.toList args.toList ds p := hA0
  rw [Yba.params3] at hA hval
  obtain ⟨v0, vs0, d0, ds0, p0, q0, hargs, rfl, rfl, h0, r0⟩ := trodAll_cons hA
  obtain ⟨v1, vs1, d1, ds1, p1, q1, rfl, rfl, rfl, h1, r1⟩ := trodAll_cons r0
  obtain ⟨v2, vs2, d2, ds2, p2, q2, rfl, rfl, rfl, h2, r2⟩ := trodAll_cons r1
  obtain ⟨rfl, rfl, rfl⟩ := trodAll_nil r2
  obtain rfl : args = #[v0, v1, v2] := by cases args; simp_all
  obtain ⟨rfl, rfl⟩ := trodVars_none hV
  obtain ⟨a0, len0, cap0, rfl⟩ := okWide_slice Yba.underlying22 (hval 0 22 v0 rfl rfl)
  obtain ⟨a1, len1, cap1, rfl⟩ := okWide_slice Yba.underlying23 (hval 1 23 v1 rfl rfl)
  have k0 := h0
  have k1 := h1
  have lt0 : ∀ x ∈ p0, x.block < W.heap.size := by obtain ⟨m, hm⟩ := k0; exact DataW.trod_lt m _ _ _ hm
  have lt1 : ∀ x ∈ p1, x.block < W.heap.size := by obtain ⟨m, hm⟩ := k1; exact DataW.trod_lt m _ _ _ hm
  obtain ⟨G, hG⟩ : ∃ G : Nat → (Int × Int × Int × Int × Bool), ∀ i, i < len0 → GAt W a0 i (G i) := by
    obtain ⟨fuel, hf⟩ := h0
    exact groups_at hf
  obtain ⟨U, hU⟩ : ∃ U : Nat → (Nat × Bool × Int), ∀ i, i < len1 → UAt W a1 i (U i) := by
    obtain ⟨fuel, hf⟩ := h1
    exact unc_at hf
  obtain ⟨now, rfl, rfl, rfl, w2⟩ := open_int Yba.underlying2 (hval 2 2 v2 rfl rfl) h2
  clear hA0 hval0
  refine (walk a0 len0 cap0 a1 len1 cap1 now W G U hG hU (wf64 w2)).mono fun e W' ⟨he, bel⟩ => ?_
  subst he
  exact ⟨_, rfl, _, _, _, [], _, [], hW', trodAll_mk1 (shut_bool Yba.underlying4 _), (trodAll_cons_mk (Below.trod laidOut (by kernel_rfl) (of_decide_eq_true (by kernel_rfl)) k0 bel lt0) (trodAll_cons_mk (Below.trod laidOut (by kernel_rfl) (of_decide_eq_true (by kernel_rfl)) k1 bel lt1) (trodAll_cons_mk (shut_int Yba.underlying2 w2) trodAll_mk0))), rfl, bel.frame _, fun h => by cases h⟩

theorem over : Rows.lawS3721BCountsRow.holds Yba.pinned (OpenSpec.ofChange Rows.lawS3721BCountsSpec) :=
  OpenClaim.holds_of_wide 3 Yba.f3 rfl rfl rfl rfl rfl rfl rfl ⟨rfl, rfl, rfl, rfl, rfl⟩ rfl rfl rfl rfl rfl (by kernel_rfl) Yba.func3 (by kernel_rfl)
    (of_decide_eq_true (by kernel_rfl)) (by unfold Func.isWrapper; first | (rw [if_pos (by decide +kernel)]; kernel_rfl) | (rw [if_neg (by decide +kernel)]; exact ⟨rfl, rfl⟩))
    (fun os started H enc _ => lifted os started H enc)

/-- THE STATEMENT -/
theorem proved : Rows.LawS3721BCountsSaid := over
end Go.Proofs.Ybulkbyaq.lawS3721BCounts
