/-
  No cell of these rows narrows 'for every input' (looked for: loops, veiled, ifaces, maps, wideKeys, modest, calm, conditions, laid).
  DERIVED. THE GIVEN ROWS OF THIS SEAT. 3 by the template 'for every input the law returns true; each argument reads behind the call as it read before'; 0 by the template 'total and deterministic' (their statements: YbulkbyaqTotals.lean).
  GIVEN WITH THE SEED: the statements are not yours to turn. If you find one false, say at which input.
  Laid BY PROGRAM, IN A SANDBOX (cutbox-rows.mjs): the forced cells as the released guide's own fill.sh prints them over the translation 4e1a2e608d826ef1… (all of the seat's roots in one cut). By AI agents, Wed Nov 11 2026. No macro, syntax, notation, axiom, sorry.
-/
import Derived.Test.YbulkbyaqChecked
import GoSem.Claim
import GoSem.ClaimJoined
import GoSem.ClaimMapViews
import Derived.JoinedTies
import Derived.KernelRfl
namespace Go.Proofs.Ybulkbyaq
/- THE CELL 'sum', in the pinned program and in every row, IS THE sha256 OF THE DUMP (.gsa) THAT YbulkbyaqProg.lean LOADS. Nothing in Lean hashes anything: it is a label: what it is worth is what the hold of that sum in a sandbox is worth. -/
noncomputable def Yba.pinned : Pinned := { name := "ybulkbyaq", sum := "4e1a2e608d826ef12ae631d6ef3e47de9abdbbd8b3c6a1f396ed836eab08f7c3", checked := Yba.checked }
namespace Rows
def none {H : Type} : Left H := { results := [], args := [] }

/-- 'pulsewell.LawS3721BCounts': WHATEVER THE INPUT: true; the input reads as it did. -/
def lawS3721BCountsSpec : ChangeSpec := { name := "lawS3721BCounts", fn := fun _ => fun
  | [d1, d2, d3] => { results := [.lit (.bool true)], args := [d1, d2, d3] }
  | _ => none }
def lawS3721BCountsRow : OpenClaim := { program := "ybulkbyaq", sum := "4e1a2e608d826ef12ae631d6ef3e47de9abdbbd8b3c6a1f396ed836eab08f7c3", func := "example.com/pulsewell/pulsewell.LawS3721BCounts", spec := "lawS3721BCounts", inPlace := ["sync/atomic.StorePointer", "sync/atomic.LoadPointer"], unfollowed := true, recurses := true, apart := false }
def LawS3721BCountsSaid : Prop := lawS3721BCountsRow.holds Yba.pinned (OpenSpec.ofChange lawS3721BCountsSpec)

/-- ITS FALSE NEIGHBOUR: 'it returns false'. Refute it at one input. -/
def lawS3721BCountsWrong : ChangeSpec := { name := "lawS3721BCounts", fn := fun _ => fun
  | [d1, d2, d3] => { results := [.lit (.bool false)], args := [d1, d2, d3] }
  | _ => none }
def LawS3721BCountsWrongFalsely : Prop := lawS3721BCountsRow.holds Yba.pinned (OpenSpec.ofChange lawS3721BCountsWrong)

/-- 'pulsewell.LawS3721CPopLast': WHATEVER THE INPUT: true; the input reads as it did. -/
def lawS3721CPopLastSpec : ChangeSpec := { name := "lawS3721CPopLast", fn := fun _ => fun
  | [d] => { results := [.lit (.bool true)], args := [d] }
  | _ => none }
def lawS3721CPopLastRow : OpenClaim := { program := "ybulkbyaq", sum := "4e1a2e608d826ef12ae631d6ef3e47de9abdbbd8b3c6a1f396ed836eab08f7c3", func := "example.com/pulsewell/pulsewell.LawS3721CPopLast", spec := "lawS3721CPopLast", apart := false }
def LawS3721CPopLastSaid : Prop := lawS3721CPopLastRow.holds Yba.pinned (OpenSpec.ofChange lawS3721CPopLastSpec)

/-- ITS FALSE NEIGHBOUR: 'it returns false'. Refute it at one input. -/
def lawS3721CPopLastWrong : ChangeSpec := { name := "lawS3721CPopLast", fn := fun _ => fun
  | [d] => { results := [.lit (.bool false)], args := [d] }
  | _ => none }
def LawS3721CPopLastWrongFalsely : Prop := lawS3721CPopLastRow.holds Yba.pinned (OpenSpec.ofChange lawS3721CPopLastWrong)

/-- 'pulsewell.LawS3721CHeapSorts': WHATEVER THE INPUT: true; the input reads as it did. -/
def lawS3721CHeapSortsSpec : ChangeSpec := { name := "lawS3721CHeapSorts", fn := fun _ => fun
  | [d] => { results := [.lit (.bool true)], args := [d] }
  | _ => none }
def lawS3721CHeapSortsRow : OpenClaim := { program := "ybulkbyaq", sum := "4e1a2e608d826ef12ae631d6ef3e47de9abdbbd8b3c6a1f396ed836eab08f7c3", func := "example.com/pulsewell/pulsewell.LawS3721CHeapSorts", spec := "lawS3721CHeapSorts", unfollowed := true, recurses := true, apart := false }
def LawS3721CHeapSortsSaid : Prop := lawS3721CHeapSortsRow.holds Yba.pinned (OpenSpec.ofChange lawS3721CHeapSortsSpec)

/-- ITS FALSE NEIGHBOUR: 'it returns false'. Refute it at one input. -/
def lawS3721CHeapSortsWrong : ChangeSpec := { name := "lawS3721CHeapSorts", fn := fun _ => fun
  | [d] => { results := [.lit (.bool false)], args := [d] }
  | _ => none }
def LawS3721CHeapSortsWrongFalsely : Prop := lawS3721CHeapSortsRow.holds Yba.pinned (OpenSpec.ofChange lawS3721CHeapSortsWrong)

end Rows
end Go.Proofs.Ybulkbyaq
