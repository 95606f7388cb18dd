/-
  DERIVED. GIVEN WITH THE SEED: THE CARDS: each row of YbulkbxzoFmtRows.lean that lists a variable, with what it lists TIED to the program's text (the seventh form; the later family's looks); each row that meets fmt, with fmt's text TOLD by the authors' own Lean function (tested against real Go, not proved from fmt's source: count such statements apart). THE CARD IS WHAT COUNTS. Prove the row's statement (the work); the ties are given (YbulkbxzoFmtTie.lean); close each card by the builder's one call (the guide's Derived/Test/ToyasCard.lean, 'card_holds'). Laid BY PROGRAM, IN A SANDBOX (cutbox-door.mjs). By AI agents, Wed Nov 11 2026. No macro, syntax, notation, axiom, sorry.
-/
import Derived.Test.YbulkbxzoFmtRows
import GoSem.ClaimSeven
namespace Go.Proofs.YbulkbxzoFmt
namespace Rows

/-- THE TOLD CARD OF 'decimal.LawS3719CTable'. -/
def lawS3719CTableCard : Claim7 := { stood := { row := lawS3719CTableRow, standIns := [], harness := (true, "e07904171ea19bed9fbcb2df9c793068aaafa7618f344e5b6ae48ffcd6855a2f"), looks := false }, told := true, goes := false }
def LawS3719CTableToldSaid : Prop := Claim7.holds Ybaf.pinned (.plain (OpenSpec.ofChange lawS3719CTableSpec)) lawS3719CTableCard
/-- ITS FALSE NEIGHBOUR. Refute it at one input. -/
def LawS3719CTableToldWrongFalsely : Prop := Claim7.holds Ybaf.pinned (.plain (OpenSpec.ofChange lawS3719CTableWrong)) lawS3719CTableCard

/-- THE TOLD AND TIED CARD OF 'decimal.LawS3719CDigits'. -/
def lawS3719CDigitsCard : Claim7 := { stood := { row := lawS3719CDigitsRow, standIns := [], harness := (true, "e07904171ea19bed9fbcb2df9c793068aaafa7618f344e5b6ae48ffcd6855a2f"), looks := false }, told := true, laidByText := true, laidKinds := [.data, .data, .data], laidTests := true, laidLooks := .later, goes := false }
def LawS3719CDigitsToldSaid : Prop := Claim7.holds Ybaf.pinned (.plain (OpenSpec.ofChange lawS3719CDigitsSpec)) lawS3719CDigitsCard
/-- ITS FALSE NEIGHBOUR. Refute it at one input. -/
def LawS3719CDigitsToldWrongFalsely : Prop := Claim7.holds Ybaf.pinned (.plain (OpenSpec.ofChange lawS3719CDigitsWrong)) lawS3719CDigitsCard

/-- THE TOLD CARD OF 'decimal.LawS3719CStep'. -/
def lawS3719CStepCard : Claim7 := { stood := { row := lawS3719CStepRow, standIns := [], harness := (true, "e07904171ea19bed9fbcb2df9c793068aaafa7618f344e5b6ae48ffcd6855a2f"), looks := false }, told := true, goes := false }
def LawS3719CStepToldSaid : Prop := Claim7.holds Ybaf.pinned (.plain (OpenSpec.ofChange lawS3719CStepSpec)) lawS3719CStepCard
/-- ITS FALSE NEIGHBOUR. Refute it at one input. -/
def LawS3719CStepToldWrongFalsely : Prop := Claim7.holds Ybaf.pinned (.plain (OpenSpec.ofChange lawS3719CStepWrong)) lawS3719CStepCard
end Rows
end Go.Proofs.YbulkbxzoFmt
