/-
  No cell of these rows narrows 'for every input' (looked for: loops, veiled, ifaces, maps, wideKeys, modest, calm, conditions, laid).
  DERIVED. THE GIVEN ROWS OF THIS SEAT. 2 by the template 'for every input the law returns true; each argument reads behind the call as it read before'; 0 by the template 'total and deterministic' (their statements: YbulkbycgTotals.lean).
  GIVEN WITH THE SEED: the statements are not yours to turn. If you find one false, say at which input.
  Laid BY PROGRAM, IN A SANDBOX (cutbox-rows.mjs): the forced cells as the released guide's own fill.sh prints them over the translation 0aab047b086eed43… (all of the seat's roots in one cut). By AI agents, Wed Nov 11 2026. No macro, syntax, notation, axiom, sorry.
-/
import Derived.Test.YbulkbycgChecked
import GoSem.Claim
import GoSem.ClaimJoined
import GoSem.ClaimMapViews
import Derived.JoinedTies
import Derived.KernelRfl
namespace Go.Proofs.Ybulkbycg
/- THE CELL 'sum', in the pinned program and in every row, IS THE sha256 OF THE DUMP (.gsa) THAT YbulkbycgProg.lean LOADS. Nothing in Lean hashes anything: it is a label: what it is worth is what the hold of that sum in a sandbox is worth. -/
noncomputable def Yba.pinned : Pinned := { name := "ybulkbycg", sum := "0aab047b086eed43f2c82288e568bf6e2d0f566fbaf08e23d9fc6a5f42b41e0d", checked := Yba.checked }
namespace Rows
def none {H : Type} : Left H := { results := [], args := [] }

/-- 'check.LawS3724CExact': WHATEVER THE INPUT: true; the input reads as it did. -/
def lawS3724CExactSpec : ChangeSpec := { name := "lawS3724CExact", fn := fun _ => fun
  | [d1, d2, d3] => { results := [.lit (.bool true)], args := [d1, d2, d3] }
  | _ => none }
def lawS3724CExactRow : OpenClaim := { program := "ybulkbycg", sum := "0aab047b086eed43f2c82288e568bf6e2d0f566fbaf08e23d9fc6a5f42b41e0d", func := "example.com/antecede/antecede/internal/check.LawS3724CExact", spec := "lawS3724CExact", recurses := true, apart := false }
def LawS3724CExactSaid : Prop := lawS3724CExactRow.holds Yba.pinned (OpenSpec.ofChange lawS3724CExactSpec)

/-- ITS FALSE NEIGHBOUR: 'it returns false'. Refute it at one input. -/
def lawS3724CExactWrong : ChangeSpec := { name := "lawS3724CExact", fn := fun _ => fun
  | [d1, d2, d3] => { results := [.lit (.bool false)], args := [d1, d2, d3] }
  | _ => none }
def LawS3724CExactWrongFalsely : Prop := lawS3724CExactRow.holds Yba.pinned (OpenSpec.ofChange lawS3724CExactWrong)

/-- 'check.LawS3724CBroadcast': WHATEVER THE INPUT: true; the input reads as it did. -/
def lawS3724CBroadcastSpec : ChangeSpec := { name := "lawS3724CBroadcast", fn := fun _ => fun
  | [d1, d2] => { results := [.lit (.bool true)], args := [d1, d2] }
  | _ => none }
def lawS3724CBroadcastRow : OpenClaim := { program := "ybulkbycg", sum := "0aab047b086eed43f2c82288e568bf6e2d0f566fbaf08e23d9fc6a5f42b41e0d", func := "example.com/antecede/antecede/internal/check.LawS3724CBroadcast", spec := "lawS3724CBroadcast", recurses := true, apart := false }
def LawS3724CBroadcastSaid : Prop := lawS3724CBroadcastRow.holds Yba.pinned (OpenSpec.ofChange lawS3724CBroadcastSpec)

/-- ITS FALSE NEIGHBOUR: 'it returns false'. Refute it at one input. -/
def lawS3724CBroadcastWrong : ChangeSpec := { name := "lawS3724CBroadcast", fn := fun _ => fun
  | [d1, d2] => { results := [.lit (.bool false)], args := [d1, d2] }
  | _ => none }
def LawS3724CBroadcastWrongFalsely : Prop := lawS3724CBroadcastRow.holds Yba.pinned (OpenSpec.ofChange lawS3724CBroadcastWrong)

end Rows
end Go.Proofs.Ybulkbycg
