/-
  The card 'LawS3719CDigitsToldSaid': the law 'decimal.LawS3719CDigits' returns true at every uint64. Told and tied.
-/
import Derived.Test.YbulkbxzoFmtCards
import Derived.Test.YbulkbxzoFmtTie
import Derived.Test.YbulkbxzoFmtDigitsWalk
import Derived.ProofKit
import Derived.ChangeSame
import Derived.JoinedOf
import Derived.Carry
import Derived.LaidMore
import Derived.MakeChecks
import Derived.Stop.LaidErr
import Derived.Lib.LaidTab
import Derived.Stop.JoinedAt
import Derived.Stop.Texts
import Derived.Stop.JoinedTold
import Derived.SevenToldRow
import Derived.SevenTiedAt
namespace Go.Proofs.YbulkbxzoFmt
open Go.ChangeShapes Go.WideShapes Go.ChangeAt Go.RowKit Go.Kit
open Go.Extern.Stop Go.Stop Go.Extern

theorem dig_own : ownKnob Ybaf.prog.godebug = none := by kernel_rfl
theorem dig_laidOut : laidOutB Ybaf.pinned.checked.prog = true := by kernel_rfl
theorem dig_stops : Ybaf.pinned.checked.prog.stops = ["fmt.Sprintf"] := by kernel_rfl
theorem dig_stopKnobs : Ybaf.pinned.checked.prog.stopKnobs = [] := by kernel_rfl
theorem dig_quiet (os : Os) : Stop.quiet Ybaf.pinned.checked.prog os := by
  intro k hk
  rw [dig_stopKnobs] at hk
  cases hk

/-- A start that fits: the heap that the door's own run leaves. -/
theorem door_met (os : Os) (args : Array Value) : laidMetH Ybaf.prog Rows.lawS3719CDigitsRow.laid ((World.doorLaid Ybaf.prog 24 os).forCall (fun _ _ => 0) ⟨#[], args, []⟩).memory :=
  laidMetH_of_parts3 (fuel := 8) (laidMet_of_run' 8 (by kernel_rfl) (by kernel_rfl)) (by kernel_rfl) (by kernel_rfl)

theorem pow_global : Ybaf.prog.globalNamed powName = some 0 := by kernel_rfl
theorem pow_type : (Ybaf.prog.globals[0]?).map (·.type) = some 31 := by kernel_rfl

theorem tab_of_laid {W : World} (h : laidMetH Ybaf.prog Rows.lawS3719CDigitsRow.laid W) : Lib.TabIs Ybaf.prog W powName .u64 Lib.pow10Tab := by
  rw [MakeChecks.laidMetH_plain _ _ _ (by kernel_rfl)] at h
  have h3 : laidMet Ybaf.prog [(powName, Lib.tabData .u64 Lib.pow10Tab)] W := h.tail.tail
  exact Lib.tabIs_of_head pow_global pow_type Ybaf.underlying31 Ybaf.underlying22 (by kernel_rfl) (by kernel_rfl) h3

set_option maxRecDepth 100000 in
theorem dig_lifted (os : Os) (started : os.Started) (H : Type) (enc : TypeId × Value → H) :
    ReturnsInTold none {} Ybaf.checked os 4 .any Input.okWide ((OpenSpec.ofChange Rows.lawS3719CDigitsSpec).preRow enc Ybaf.prog Ybaf.f4 [] false Rows.lawS3719CDigitsRow.laid) (fun F => ((OpenSpec.ofChange Rows.lawS3719CDigitsSpec).at F).post enc Ybaf.prog Ybaf.f4 false true false false) (aloneAtReturn Ybaf.prog) nothingAlways := by
  refine returnsInTold_of_row (C := Ybaf.checked) (s := OpenSpec.ofChange Rows.lawS3719CDigitsSpec) (by kernel_rfl) dig_own started (by kernel_rfl) Ybaf.func4
    (OpenSpec.witness_stopped_at (enc := enc) (C := Ybaf.checked) false (World.doorLaid Ybaf.prog 24 os) #[.int .u64 0] rfl (by kernel_rfl) (by kernel_rfl) (by kernel_rfl)
      (OpenSpec.preRow_of_B rfl 8 (by kernel_rfl) (by kernel_rfl) (door_met os _))) ?_
  intro F W base args ds gs before _ hF hval0 hW _ _ hsz hL _
  have hval : ∀ (j : Nat) t v, Ybaf.f4.params[j]? = some t → args[j]? = some v → Value.okWide Ybaf.prog W .any base t v := hval0
  have hW' := hW
  obtain ⟨p, q, hA0, hV, rfl, _, _⟩ := hW
  have hA : DataW.TrodAll enc Ybaf.prog W 0 (fun _ => true) true Ybaf.f4.params.toList args.toList ds p := hA0
  rw [Ybaf.params4] at hA hval
  obtain ⟨v0, d0, rfl, rfl, h0⟩ := trodAll_one hA
  obtain ⟨rfl, rfl⟩ := trodVars_none hV
  obtain ⟨x, rfl, rfl, rfl, wx⟩ := open_int Ybaf.underlying22 (hval 0 22 v0 rfl rfl) h0
  clear hA0 hval0
  simp only [List.append_nil] at hW'
  have hx : 0 ≤ x ∧ x ≤ 18446744073709551615 := by
    have := wx
    simp [Lit.wf, IntKind.min, IntKind.max, IntKind.signed, IntKind.bits] at this
    omega
  refine (digits_any x W hx.1 hx.2 (tab_of_laid hL)).mono fun e W' ⟨he, hb⟩ => ?_
  subst he
  exact ⟨_, rfl, _, _, _, [], [], [], hW', trodAll_mk1 (shut_bool Ybaf.underlying4 _), trodAll_mk1 (shut_int Ybaf.underlying22 wx), rfl, hb.frame _, fun h => by cases h⟩

theorem dig_proved : Rows.LawS3719CDigitsToldSaid :=
  Claim7.holds_of_told_tied_any_at .later 4 Ybaf.f4 "fmt.Sprintf" [] [] _ _ _ _ _ (by kernel_rfl) rfl rfl rfl dig_laidOut (by kernel_rfl) rfl ⟨rfl, rfl, rfl, rfl, rfl, rfl, rfl⟩ rfl rfl (by kernel_rfl) (by kernel_rfl) Ybaf.func4 (by kernel_rfl)
    (of_decide_eq_true (by kernel_rfl)) (of_decide_eq_true (by kernel_rfl)) dig_stops.symm rfl dig_stopKnobs.symm (by kernel_rfl)
    (by kernel_rfl) (by kernel_rfl) (by kernel_rfl) (by kernel_rfl) (by kernel_rfl) (by kernel_rfl) (by kernel_rfl) (by kernel_rfl) (by kernel_rfl) rfl (by kernel_rfl) rfl rfl
    rfl rfl
    rfl (by kernel_rfl) (by kernel_rfl) (by kernel_rfl) (by decide) (by kernel_rfl) lawS3719CDigits_row_tie
    (OpenClaim.moreEntering_of (by kernel_rfl) (by kernel_rfl) (by kernel_rfl) (by kernel_rfl) (by kernel_rfl) (by kernel_rfl) (by kernel_rfl) (by kernel_rfl) (by kernel_rfl) (by kernel_rfl))
    ⟨_, WideRow.started_initial, dig_quiet _⟩
    (fun os started _ H enc _ => dig_lifted os started H enc)
end Go.Proofs.YbulkbxzoFmt
