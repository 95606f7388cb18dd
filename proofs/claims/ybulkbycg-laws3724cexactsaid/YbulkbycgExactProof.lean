/-
  The law 'check.LawS3724CExact', proved: for every slice of bytes, every slice of slices of int32 and every int32 the call returns true and writes nothing that was there.
-/
import Derived.Test.YbulkbycgRows
import Derived.Test.YbulkbycgExact
import Derived.Deep.Slices
import Derived.WalkKit
import Derived.ProofKit
import Derived.OpenShut
import Derived.ShutString
import Derived.ChangeOld
import Derived.Below
namespace Go.Proofs.Ybulkbycg.lawS3724CExact
open Go.ChangeShapes Go.WideShapes Go.ChangeAt Go.RowKit Go.Deep
open Go.ChangeMaps (open_string shut_string)
set_option linter.unusedVariables false

theorem own : ownKnob Yba.prog.godebug = none := by kernel_rfl
theorem laidOut : laidOutB Yba.prog = true := by kernel_rfl
theorem cells24 : Yba.prog.cellsOf 24 = 1 := by kernel_rfl
theorem cells21 : Yba.prog.cellsOf 21 = 1 := by kernel_rfl
theorem cells5 : Yba.prog.cellsOf 5 = 1 := by kernel_rfl

section
variable {H : Type} {enc : TypeId × Value → H} {w : World} {base : Nat} {held : Bool}

/-- One list that came in. -/
theorem open_list {fuel : Nat} {v : Value} {x : DataW H × List MemPlace} (h : DataW.trod enc Yba.prog w base (fun _ => true) held fuel 24 [v] = some x) :
    ∃ U L C, v = .slice U L C ∧ (L ≤ 1024 → InRow w U L) := by
  rcases open_ints Yba.underlying24 Yba.underlying21 cells21 h with ⟨hcs, _⟩ | ⟨a, l, c, zs, hcs, _, hl, hm, hz, _, hcell, hwz⟩
  · simp only [List.cons.injEq, and_true] at hcs
    exact ⟨none, 0, 0, hcs, fun h => ⟨h, fun _ => 0, fun i hi => absurd hi (Nat.not_lt_zero _)⟩⟩
  · simp only [List.cons.injEq, and_true] at hcs
    refine ⟨some a, l, c, hcs, fun h => ⟨h, fun i => zs.getD i 0, fun i hi => ?_⟩⟩
    simp at hz
    obtain ⟨b, off, e, hc⟩ := ints_at hcell (by omega)
    subst e
    have h1 := hc i (by omega)
    exact ⟨b, off, rfl, lt_of_cell h1, h1⟩

theorem lists_at {a : Option Addr} {len cap fuel : Nat} {x : DataW H × List MemPlace} (h : DataW.trod enc Yba.prog w base (fun _ => true) held fuel 23 [.slice a len cap] = some x) :
    ∃ Lf : Nat → Nat, TLens w a len Lf := by
  refine choose_lt (p := fun m L => ∃ b o U C, a = some ⟨b, o, none⟩ ∧ b < w.heap.size ∧ w.cell? ⟨b, o + m, none⟩ = some (.slice U L C) ∧ (L ≤ 1024 → InRow w U L)) (fun i hi => ?_)
  rcases open_slice1 Yba.underlying23 cells24 h with ⟨hcs, _⟩ | ⟨ad, l, c, m, n, V, D, Pl, hcs, _, hl, _, hm, _, hx⟩
  · simp only [List.cons.injEq, Value.slice.injEq, and_true] at hcs
    omega
  · simp only [List.cons.injEq, Value.slice.injEq, and_true] at hcs
    obtain ⟨rfl, rfl, rfl⟩ := hcs
    simp only [if_true] at hm
    obtain ⟨h1, h2⟩ := hx i (by omega)
    obtain ⟨U, L, C, hv, hI⟩ := open_list h2
    obtain ⟨h3, _⟩ := hx 0 (by omega)
    obtain ⟨b, off, sp⟩ := ad
    obtain ⟨_, _, _, _, hsp⟩ := World.shape?_of_cell? h3
    have hsp' : sp = none := by simpa [Addr.add] using hsp
    subst hsp'
    rw [Go.WideShapes.add_plain, hv] at h1
    exact ⟨L, b, off, U, C, rfl, lt_of_cell h1, h1, hI⟩

theorem bytes_at {a : Option Addr} {len cap fuel : Nat} {x : DataW H × List MemPlace} (h : DataW.trod enc Yba.prog w base (fun _ => true) held fuel 22 [.slice a len cap] = some x) :
    ∃ c : Nat → Nat, ∀ i, i < len → ∃ b off, a = some ⟨b, off, none⟩ ∧ b < w.heap.size ∧ c i ≤ 255 ∧ w.cell? ⟨b, off + i, none⟩ = some (.int .u8 (c i : Nat)) := by
  rcases open_ints Yba.underlying22 Yba.underlying5 cells5 h with ⟨hcs, _⟩ | ⟨ad, l, c, zs, hcs, _, hl, hm, hz, _, hcell, hwz⟩
  · simp only [List.cons.injEq, Value.slice.injEq, and_true] at hcs
    exact ⟨fun _ => 0, fun i hi => by omega⟩
  · simp only [List.cons.injEq, Value.slice.injEq, and_true] at hcs
    obtain ⟨rfl, rfl, rfl⟩ := hcs
    refine ⟨fun i => (zs.getD i 0).toNat, fun i hi => ?_⟩
    simp at hz
    obtain ⟨b, off, e, hc⟩ := ints_at hcell (by omega)
    subst e
    have h1 := hc i (by omega)
    have hin : zs.getD i 0 ∈ zs := by
      have : i < zs.length := by omega
      simp [List.getD, this]
    have hb := hwz _ hin
    simp [Lit.wf, IntKind.min, IntKind.max, IntKind.signed, IntKind.bits] at hb
    simp only [List.getD] at h1 hb ⊢
    refine ⟨b, off, rfl, lt_of_cell h1, by omega, ?_⟩
    rw [h1, Int.toNat_of_nonneg (by omega)]
end

theorem walk (a0 : Option Addr) (len cap : Nat) (t0 : Option Addr) (tl tcap : Nat) (j : Int) (w : World) (c Lf : Nat → Nat) (w2 : (Lit.int .i32 j).wf = true)
    (ht : TLens w t0 tl Lf) (hv : ∀ i, i < len → ∃ b off, a0 = some ⟨b, off, none⟩ ∧ b < w.heap.size ∧ c i ≤ 255 ∧ w.cell? ⟨b, off + i, none⟩ = some (.int .u8 (c i : Nat))) :
    Calls Yba.prog 3 #[.slice a0 len cap, .slice t0 tl tcap, .int .i32 j] w fun e w' => e = .returned (.bool true) ∧ Below w.heap.size w w' := by
  by_cases h0 : 256 < len
  · exact exact_long1 a0 len cap t0 tl tcap j w (by omega)
  · by_cases h1 : 1024 < tl
    · exact exact_long2 a0 len cap t0 tl tcap j w (by omega) (by omega)
    · have hj : -2147483648 ≤ j ∧ j ≤ 2147483647 := by
        have := w2
        simp [Lit.wf, IntKind.min, IntKind.max, IntKind.signed, IntKind.bits] at this
        omega
      exact exact_any a0 len cap t0 tl tcap j c Lf w (by omega) (by omega) hj.1 hj.2 ht hv

/-! ### The row's step -/
set_option maxRecDepth 100000 in
theorem lifted (os : Os) (started : os.Started) (H : Type) (enc : TypeId × Value → H) :
    ReturnsInHanded {} Yba.checked os 3 .any (Rows.lawS3724CExactSpec.pre6 enc Yba.prog Yba.f3 Rows.lawS3724CExactRow.domain false) (Rows.lawS3724CExactSpec.post enc Yba.prog Yba.f3 false true false false) := by
  refine returnsInHanded_of_change (C := Yba.checked) own started (by kernel_rfl) Yba.func3
    (ChangeSpec.witness6 (enc := enc) (C := Yba.checked) false ⟨#[], #[.slice none 0 0, .slice none 0 0, .int .i32 0], []⟩ 8 (by kernel_rfl) (by kernel_rfl) (by kernel_rfl) (by kernel_rfl)) ?_
  intro W base args ds gs before hval0 hW hcnd _
  have hval : ∀ (j : Nat) t v, Yba.f3.params[j]? = some t → args[j]? = some v → Value.okWide Yba.prog W .any base t v := hval0
  have hW' := hW
  obtain ⟨p, q, hA0, hV, rfl, hfz, hnd⟩ := hW
  have hA : DataW.TrodAll enc Yba.prog W 0 (fun _ => true) true Yba.f3.params.toList args.toList ds p := hA0
  rw [Yba.params3] at hA hval
  obtain ⟨v0, vs0, d0, ds0, p0, q0, hargs, rfl, rfl, h0, r0⟩ := trodAll_cons hA
  obtain ⟨v1, vs1, d1, ds1, p1, q1, rfl, rfl, rfl, h1, r1⟩ := trodAll_cons r0
  obtain ⟨v2, vs2, d2, ds2, p2, q2, rfl, rfl, rfl, h2, r2⟩ := trodAll_cons r1
  obtain ⟨rfl, rfl, rfl⟩ := trodAll_nil r2
  obtain rfl : args = #[v0, v1, v2] := by cases args; simp_all
  obtain ⟨rfl, rfl⟩ := trodVars_none hV
  obtain ⟨a0, len0, cap0, rfl⟩ := okWide_slice Yba.underlying22 (hval 0 22 v0 rfl rfl)
  obtain ⟨a1, len1, cap1, rfl⟩ := okWide_slice Yba.underlying23 (hval 1 23 v1 rfl rfl)
  have k0 := h0
  have k1 := h1
  have lt0 : ∀ x ∈ p0, x.block < W.heap.size := by obtain ⟨m, hm⟩ := k0; exact DataW.trod_lt m _ _ _ hm
  have lt1 : ∀ x ∈ p1, x.block < W.heap.size := by obtain ⟨m, hm⟩ := k1; exact DataW.trod_lt m _ _ _ hm
  obtain ⟨c, hc⟩ : ∃ c : Nat → Nat, ∀ i, i < len0 → ∃ b off, a0 = some ⟨b, off, none⟩ ∧ b < W.heap.size ∧ c i ≤ 255 ∧ W.cell? ⟨b, off + i, none⟩ = some (.int .u8 (c i : Nat)) := by
    obtain ⟨fuel, hf⟩ := h0
    exact bytes_at hf
  obtain ⟨Lf, hL⟩ : ∃ Lf : Nat → Nat, TLens W a1 len1 Lf := by
    obtain ⟨fuel, hf⟩ := h1
    exact lists_at hf
  obtain ⟨j, rfl, rfl, rfl, w2⟩ := open_int Yba.underlying21 (hval 2 21 v2 rfl rfl) h2
  clear hA0 hval0
  refine (walk a0 len0 cap0 a1 len1 cap1 j W c Lf w2 hL hc).mono fun e W' ⟨he, bel⟩ => ?_
  subst he
  exact ⟨_, rfl, _, _, _, [], _, [], hW', trodAll_mk1 (shut_bool Yba.underlying4 _), (trodAll_cons_mk (Below.trod laidOut (by kernel_rfl) (of_decide_eq_true (by kernel_rfl)) k0 bel lt0) (trodAll_cons_mk (Below.trod laidOut (by kernel_rfl) (of_decide_eq_true (by kernel_rfl)) k1 bel lt1) (trodAll_cons_mk (shut_int Yba.underlying21 w2) trodAll_mk0))), rfl, bel.frame _, fun h => by cases h⟩

theorem over : Rows.lawS3724CExactRow.holds Yba.pinned (OpenSpec.ofChange Rows.lawS3724CExactSpec) :=
  OpenClaim.holds_of_wide 3 Yba.f3 rfl rfl rfl rfl rfl rfl rfl ⟨rfl, rfl, rfl, rfl, rfl⟩ rfl rfl rfl rfl rfl (by kernel_rfl) Yba.func3 (by kernel_rfl)
    (of_decide_eq_true (by kernel_rfl)) (by unfold Func.isWrapper; first | (rw [if_pos (by decide +kernel)]; kernel_rfl) | (rw [if_neg (by decide +kernel)]; exact ⟨rfl, rfl⟩))
    (fun os started H enc _ => lifted os started H enc)

/-- THE STATEMENT -/
theorem proved : Rows.LawS3724CExactSaid := over
end Go.Proofs.Ybulkbycg.lawS3724CExact
