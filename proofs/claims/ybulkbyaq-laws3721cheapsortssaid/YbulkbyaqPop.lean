/-
  The walk of '(*dueQueue).Pop'.
-/
import Derived.Test.YbulkbyaqProg
import Derived.WalkKit
import Derived.WalkSpells
import Derived.WalkLawsBesides
import Derived.Deep.OwnRows
import Derived.Deep.LoopGhost
namespace Go.Proofs.Ybulkbyaq
open Go.RowKit

set_option maxHeartbeats 400000 in
theorem pop_any (Q b sb m cap : Nat) (v : Value) (w : World)
    (hq : w.cell? ⟨Q, 0, none⟩ = some (.slice (some ⟨b, 0, none⟩) (m + 1) cap)) (hqf : w.frozen? ⟨Q, 0, none⟩ = false)
    (hc : w.cell? ⟨b, m, none⟩ = some (.pointer (some ⟨sb, 0, none⟩))) (hcf : w.frozen? ⟨b, m, none⟩ = false)
    (hs : w.cell? ⟨sb, 26, none⟩ = some v) (hsf : w.frozen? ⟨sb, 26, none⟩ = false)
    (hm : m < cap) (hcap : cap ≤ 1000000) (h1 : Q ≠ b) (h2 : sb ≠ b) (h3 : sb ≠ Q) :
    Calls Yba.prog 13 #[.pointer (some ⟨Q, 0, none⟩)] w fun e w' => e = .returned (.iface 46 (.pointer (some ⟨sb, 0, none⟩))) ∧
      w' = ((w.setCell ⟨b, m, none⟩ (.pointer none)).setCell ⟨Q, 0, none⟩ (.slice (some ⟨b, 0, none⟩) m cap)).setCell ⟨sb, 26, none⟩ (.int .i64 (-1)) := by
  go_enter Yba.func13, Yba.ntmps13
  go_wp2
  go_ret
  exact ⟨rfl, rfl⟩
end Go.Proofs.Ybulkbyaq
