/-
  The arguments of LawS3721BCounts opened: slices of structs.
-/
import Derived.Test.YbulkbyaqLawPlain
import Derived.Deep.Slices
import Derived.ProofKit
import Derived.Laws.LoneSync
namespace Go.Proofs.Ybulkbyaq
open Go.ChangeShapes Go.WideShapes Go.Deep Go.RowKit

theorem cells37 : Yba.prog.cellsOf 37 = 5 := by kernel_rfl
theorem cells64 : Yba.prog.cellsOf 64 = 3 := by kernel_rfl
theorem cells2 : Yba.prog.cellsOf 2 = 1 := by kernel_rfl
theorem cells4 : Yba.prog.cellsOf 4 = 1 := by kernel_rfl
theorem cells5 : Yba.prog.cellsOf 5 = 1 := by kernel_rfl

theorem wf64 {z : Int} (h : (Lit.int .i64 z).wf = true) : In64 z := by
  simp [Lit.wf, IntKind.min, IntKind.max, IntKind.signed, IntKind.bits] at h
  unfold In64
  omega
theorem wf8 {z : Int} (h : (Lit.int .u8 z).wf = true) : 0 ≤ z ∧ z < 256 := by
  simp [Lit.wf, IntKind.min, IntKind.max, IntKind.signed, IntKind.bits] at h
  omega

def GAt (w : World) (a : Option Addr) (i : Nat) (G : Int × Int × Int × Int × Bool) : Prop :=
  ∃ b off, a = some ⟨b, off, none⟩ ∧ w.cell? ⟨b, off + i * 5, none⟩ = some (.int .i64 G.1) ∧ w.cell? ⟨b, off + i * 5 + 1, none⟩ = some (.int .i64 G.2.1) ∧ w.cell? ⟨b, off + i * 5 + 2, none⟩ = some (.int .i64 G.2.2.1) ∧
    w.cell? ⟨b, off + i * 5 + 3, none⟩ = some (.int .i64 G.2.2.2.1) ∧ w.cell? ⟨b, off + i * 5 + 4, none⟩ = some (.bool G.2.2.2.2) ∧ In64 G.1 ∧ In64 G.2.1 ∧ In64 G.2.2.1 ∧ In64 G.2.2.2.1
def UAt (w : World) (a : Option Addr) (i : Nat) (G : Nat × Bool × Int) : Prop :=
  ∃ b off, a = some ⟨b, off, none⟩ ∧ w.cell? ⟨b, off + i * 3, none⟩ = some (.int .u8 (G.1 : Nat)) ∧ w.cell? ⟨b, off + i * 3 + 1, none⟩ = some (.bool G.2.1) ∧ w.cell? ⟨b, off + i * 3 + 2, none⟩ = some (.int .i64 G.2.2) ∧ G.1 < 256 ∧ In64 G.2.2

theorem list5 {α : Type} : ∀ (cs : List α), cs.length = 5 → ∃ a b c d e, cs = [a, b, c, d, e]
  | [a, b, c, d, e], _ => ⟨a, b, c, d, e, rfl⟩
theorem list3 {α : Type} : ∀ (cs : List α), cs.length = 3 → ∃ a b c, cs = [a, b, c]
  | [a, b, c], _ => ⟨a, b, c, rfl⟩

section
variable {H : Type} {enc : TypeId × Value → H} {w : World} {base : Nat} {spare : Nat → Bool} {held : Bool}

set_option maxRecDepth 100000 in
theorem open_group {fuel : Nat} {cs : List Value} {x : DataW H × List MemPlace} (h : DataW.trod enc Yba.prog w base spare held fuel 37 cs = some x) :
    ∃ (a b c d : Int) (e : Bool), cs = [.int .i64 a, .int .i64 b, .int .i64 c, .int .i64 d, .bool e] ∧ In64 a ∧ In64 b ∧ In64 c ∧ In64 d := by
  obtain ⟨xs, n, _, _, hlen, hxs, hf⟩ := DataW.trod_struct Yba.underlying37 h
  rw [cells37] at hlen
  have hxs' : xs.length = 5 := hxs
  obtain ⟨c0, c1, c2, c3, c4, rfl⟩ := list5 cs hlen
  · have f0 : DataW.trod enc Yba.prog w base spare held n 2 (([c0, c1, c2, c3, c4].drop 0).take (Yba.prog.cellsOf 2)) = xs[0]? := hf 0 _ rfl
    have f1 : DataW.trod enc Yba.prog w base spare held n 2 (([c0, c1, c2, c3, c4].drop 1).take (Yba.prog.cellsOf 2)) = xs[1]? := hf 1 _ rfl
    have f2 : DataW.trod enc Yba.prog w base spare held n 2 (([c0, c1, c2, c3, c4].drop 2).take (Yba.prog.cellsOf 2)) = xs[2]? := hf 2 _ rfl
    have f3 : DataW.trod enc Yba.prog w base spare held n 2 (([c0, c1, c2, c3, c4].drop 3).take (Yba.prog.cellsOf 2)) = xs[3]? := hf 3 _ rfl
    have f4 : DataW.trod enc Yba.prog w base spare held n 4 (([c0, c1, c2, c3, c4].drop 4).take (Yba.prog.cellsOf 4)) = xs[4]? := hf 4 _ rfl
    rw [List.getElem?_eq_getElem (by omega)] at f0 f1 f2 f3 f4
    rw [cells2] at f0 f1 f2 f3
    rw [cells4] at f4
    simp only [List.drop, List.take] at f0 f1 f2 f3 f4
    obtain ⟨a, e0, _, w0⟩ := DataW.trod_int Yba.underlying2 f0
    obtain ⟨b, e1, _, w1⟩ := DataW.trod_int Yba.underlying2 f1
    obtain ⟨c, e2, _, w2⟩ := DataW.trod_int Yba.underlying2 f2
    obtain ⟨d, e3, _, w3⟩ := DataW.trod_int Yba.underlying2 f3
    obtain ⟨e, e4, _⟩ := DataW.trod_bool Yba.underlying4 f4
    simp only [List.cons.injEq, and_true] at e0 e1 e2 e3 e4
    subst e0 e1 e2 e3 e4
    exact ⟨a, b, c, d, e, rfl, wf64 w0, wf64 w1, wf64 w2, wf64 w3⟩

set_option maxRecDepth 100000 in
theorem open_unc {fuel : Nat} {cs : List Value} {x : DataW H × List MemPlace} (h : DataW.trod enc Yba.prog w base spare held fuel 64 cs = some x) :
    ∃ (a : Nat) (b : Bool) (c : Int), cs = [.int .u8 (a : Nat), .bool b, .int .i64 c] ∧ a < 256 ∧ In64 c := by
  obtain ⟨xs, n, _, _, hlen, hxs, hf⟩ := DataW.trod_struct Yba.underlying64 h
  rw [cells64] at hlen
  have hxs' : xs.length = 3 := hxs
  obtain ⟨c0, c1, c2, rfl⟩ := list3 cs hlen
  · have f0 : DataW.trod enc Yba.prog w base spare held n 5 (([c0, c1, c2].drop 0).take (Yba.prog.cellsOf 5)) = xs[0]? := hf 0 _ rfl
    have f1 : DataW.trod enc Yba.prog w base spare held n 4 (([c0, c1, c2].drop 1).take (Yba.prog.cellsOf 4)) = xs[1]? := hf 1 _ rfl
    have f2 : DataW.trod enc Yba.prog w base spare held n 2 (([c0, c1, c2].drop 2).take (Yba.prog.cellsOf 2)) = xs[2]? := hf 2 _ rfl
    rw [List.getElem?_eq_getElem (by omega)] at f0 f1 f2
    rw [cells5] at f0
    rw [cells4] at f1
    rw [cells2] at f2
    simp only [List.drop, List.take] at f0 f1 f2
    obtain ⟨a, e0, _, w0⟩ := DataW.trod_int Yba.underlying5 f0
    obtain ⟨b, e1, _⟩ := DataW.trod_bool Yba.underlying4 f1
    obtain ⟨c, e2, _, w2⟩ := DataW.trod_int Yba.underlying2 f2
    simp only [List.cons.injEq, and_true] at e0 e1 e2
    subst e0 e1 e2
    have h8 := wf8 w0
    exact ⟨a.toNat, b, c, by rw [Int.toNat_of_nonneg h8.1], by omega, wf64 w2⟩

set_option maxRecDepth 100000 in
theorem groups_at {a : Option Addr} {len cap fuel : Nat} {x : DataW H × List MemPlace} (h : DataW.trod enc Yba.prog w base (fun _ => true) held fuel 22 [.slice a len cap] = some x) :
    ∃ G : Nat → (Int × Int × Int × Int × Bool), ∀ i, i < len → GAt w a i (G i) := by
  refine choose_lt (p := fun i G => GAt w a i G) (fun i hi => ?_)
  rcases open_slice Yba.underlying22 h with ⟨hcs, _⟩ | ⟨ad, l, c, m, n, D, Pl, hcs, _, hl, _, hm, _, hx⟩
  · simp only [List.cons.injEq, Value.slice.injEq, and_true] at hcs
    omega
  · simp only [List.cons.injEq, Value.slice.injEq, and_true] at hcs
    obtain ⟨rfl, rfl, rfl⟩ := hcs
    simp only [if_true] at hm
    obtain ⟨cs, h1, h2⟩ := hx i (by omega)
    obtain ⟨v0, v1, v2, v3, v4, rfl, w0, w1, w2, w3⟩ := open_group h2
    rw [cells37] at h1
    obtain ⟨_, _, hc⟩ := World.cells?_some h1
    have k0 := hc 0 (by omega)
    have k1 := hc 1 (by omega)
    have k2 := hc 2 (by omega)
    have k3 := hc 3 (by omega)
    have k4 := hc 4 (by omega)
    obtain ⟨b, off, sp⟩ := ad
    obtain ⟨cs0, q1, q2⟩ := hx 0 (by omega)
    obtain ⟨_, _, _, _, _, rfl, _⟩ := open_group q2
    rw [cells37] at q1
    obtain ⟨_, _, hc0⟩ := World.cells?_some q1
    obtain ⟨_, _, _, _, hsp⟩ := World.shape?_of_cell? ((hc0 0 (by omega)).trans (List.getElem?_cons_zero))
    have hsp' : sp = none := by simpa [Addr.add] using hsp
    subst hsp'
    rw [Go.WideShapes.add_plain, Go.WideShapes.add_plain] at k0 k1 k2 k3 k4
    exact ⟨(v0, v1, v2, v3, v4), b, off, rfl, k0, k1, k2, k3, k4, w0, w1, w2, w3⟩

set_option maxRecDepth 100000 in
theorem unc_at {a : Option Addr} {len cap fuel : Nat} {x : DataW H × List MemPlace} (h : DataW.trod enc Yba.prog w base (fun _ => true) held fuel 23 [.slice a len cap] = some x) :
    ∃ G : Nat → (Nat × Bool × Int), ∀ i, i < len → UAt w a i (G i) := by
  refine choose_lt (p := fun i G => UAt w a i G) (fun i hi => ?_)
  rcases open_slice Yba.underlying23 h with ⟨hcs, _⟩ | ⟨ad, l, c, m, n, D, Pl, hcs, _, hl, _, hm, _, hx⟩
  · simp only [List.cons.injEq, Value.slice.injEq, and_true] at hcs
    omega
  · simp only [List.cons.injEq, Value.slice.injEq, and_true] at hcs
    obtain ⟨rfl, rfl, rfl⟩ := hcs
    simp only [if_true] at hm
    obtain ⟨cs, h1, h2⟩ := hx i (by omega)
    obtain ⟨v0, v1, v2, rfl, w0, w1⟩ := open_unc h2
    rw [cells64] at h1
    obtain ⟨_, _, hc⟩ := World.cells?_some h1
    have k0 := hc 0 (by omega)
    have k1 := hc 1 (by omega)
    have k2 := hc 2 (by omega)
    obtain ⟨b, off, sp⟩ := ad
    obtain ⟨cs0, q1, q2⟩ := hx 0 (by omega)
    obtain ⟨_, _, _, rfl, _⟩ := open_unc q2
    rw [cells64] at q1
    obtain ⟨_, _, hc0⟩ := World.cells?_some q1
    obtain ⟨_, _, _, _, hsp⟩ := World.shape?_of_cell? ((hc0 0 (by omega)).trans (List.getElem?_cons_zero))
    have hsp' : sp = none := by simpa [Addr.add] using hsp
    subst hsp'
    rw [Go.WideShapes.add_plain, Go.WideShapes.add_plain] at k0 k1 k2
    exact ⟨(v0, v1, v2), b, off, rfl, k0, k1, k2, w0, w1⟩
end
end Go.Proofs.Ybulkbyaq
