/-
  (*atomic.Pointer[time.Time]).Load and Store, of the field of a slot.
-/
import Derived.Test.YbulkbyaqGroups
import Derived.Laws.LoneSync
import Derived.Lib.Builder
namespace Go.Proofs.Ybulkbyaq
open Go.RowKit

theorem run_load_ptr {a : Addr} {v : Option Addr} {w : World} (hc : w.cell? a = some (.pointer v)) :
    (callFunc 32 #[.pointer (some a)]).run Yba.prog w = .ok (.value (.pointer v)) w := by
  rw [run_callFunc_extern Yba.func32 (by kernel_rfl) (by kernel_rfl) (by kernel_rfl) (show Extern.find Yba.f32 = some (Extern.Atomic.loadT .ptr) by kernel_rfl)]
  change (Sem.run Yba.prog (do Extern.Atomic.read .ptr (← asAddr (.pointer (some a)))) w).andThen _ = _
  simp [Extern.Atomic.read, asAddr, hc, Result.andThen]

theorem run_store_ptr {a : Addr} {v : Option Addr} {u : Value} {w : World} (hc : w.cell? a = some u) (hz : w.frozen? a = false) :
    (callFunc 18 #[.pointer (some a), .pointer v]).run Yba.prog w = .ok (.value (.tuple #[])) (w.setCell a (.pointer v)) := by
  rw [run_callFunc_extern Yba.func18 (by kernel_rfl) (by kernel_rfl) (by kernel_rfl) (show Extern.find Yba.f18 = some Extern.Atomic.storeT by kernel_rfl)]
  change (Sem.run Yba.prog (do
    store (← asAddr (.pointer (some a))) (.pointer v) .atomic
    pure Extern.Atomic.none_) w).andThen _ = _
  simp [asAddr, hc, hz, run_store Yba.prog w a (.pointer v) .atomic rfl, Result.andThen, Extern.Atomic.none_]

theorem conv_to (t : Nat) (v : Value) (w : World) (h : w.cell? ⟨t, 0, none⟩ = some v) : (convert 54 58 (.pointer (some ⟨t, 0, none⟩))).run Yba.prog w = .ok (.pointer (some ⟨t, 0, none⟩)) w :=
  run_convert_to_unsafe Yba.underlying54 Yba.underlying58 (by kernel_rfl) h
theorem conv_nil (w : World) : (convert 58 54 (.pointer none)).run Yba.prog w = .ok (.pointer none) w := by kernel_rfl
theorem conv_from (t : Nat) (f : Nat → Value) (w : World) (h : w.rowIs t 27 3 f) : (convert 58 54 (.pointer (some ⟨t, 0, none⟩))).run Yba.prog w = .ok (.pointer (some ⟨t, 0, none⟩)) w := by
  obtain ⟨c, hc, hn, _⟩ := h
  have hsh : w.shape? t = some (27, 3) := by simp [World.shape?, hc, hn]
  have hlies : liesAt Yba.prog Yba.prog.depth 27 (3 / Yba.prog.cellsOf 27) 0 27 1 = true := by kernel_rfl
  have hi : (Yba.prog.info? 27).map (fun i => i.size) = some 3 := by kernel_rfl
  obtain ⟨i, hi, hz⟩ := Option.map_eq_some_iff.1 hi
  simp [convert, run_underlying Yba.underlying58, run_underlying Yba.underlying54, Conv.unsafePointer, Conv.seenAt, viewAt, hsh, variablesAt, hlies, sizeOf, typeInfo, hi, hz]

set_option maxRecDepth 100000 in
theorem load_none (s : Nat) (w : World) (h : w.cell? ⟨s, 38, none⟩ = some (.pointer none)) :
    Calls Yba.prog 24 #[.pointer (some ⟨s, 38, none⟩)] w fun e w' => e = .returned (.pointer none) ∧ w' = w := by
  have h1 := run_load_ptr h
  have h2 := conv_nil w
  go_enter Yba.func24, Yba.ntmps24
  go_wp2
  go_ret
  exact ⟨rfl, rfl⟩

set_option maxRecDepth 100000 in
theorem load_some (s t : Nat) (f : Nat → Value) (w : World) (h : w.cell? ⟨s, 38, none⟩ = some (.pointer (some ⟨t, 0, none⟩))) (ht : w.rowIs t 27 3 f) :
    Calls Yba.prog 24 #[.pointer (some ⟨s, 38, none⟩)] w fun e w' => e = .returned (.pointer (some ⟨t, 0, none⟩)) ∧ w' = w := by
  have h1 := run_load_ptr h
  have h2 := conv_from t f w ht
  clear ht
  go_enter Yba.func24, Yba.ntmps24
  go_wp2
  go_ret
  exact ⟨rfl, rfl⟩

set_option maxRecDepth 100000 in
theorem store_some (s t : Nat) (u v : Value) (w : World) (h : w.cell? ⟨s, 38, none⟩ = some u) (hz : w.frozen? ⟨s, 38, none⟩ = false) (ht : w.cell? ⟨t, 0, none⟩ = some v) :
    Calls Yba.prog 7 #[.pointer (some ⟨s, 38, none⟩), .pointer (some ⟨t, 0, none⟩)] w fun e w' => e = .returned (.tuple #[]) ∧ w' = w.setCell ⟨s, 38, none⟩ (.pointer (some ⟨t, 0, none⟩)) := by
  have h1 := run_store_ptr (v := some ⟨t, 0, none⟩) h hz
  have h2 := conv_to t v w ht
  go_enter Yba.func7, Yba.ntmps7
  go_wp2
  go_end0
  exact ⟨rfl, rfl⟩
end Go.Proofs.Ybulkbyaq
