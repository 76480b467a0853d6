/-
  A SLICE OF PAIRS THAT CAME IN, as the walks of this seat take it ('Pairs').
-/
import Derived.Test.YbulkdehoBoundsWalk
import Derived.ProofKit
import Derived.OpenShut
import Derived.ChangeOld
import Derived.Deep.SlicePairs
namespace Go.Proofs.Ybulkdeho
open Go.ChangeShapes Go.WideShapes Go.ChangeAt Go.RowKit Go.Deep

theorem Yba.cells44 : Yba.prog.cellsOf 44 = 2 := by kernel_rfl
theorem Yba.cells51 : Yba.prog.cellsOf 51 = 2 := by kernel_rfl
theorem Yba.cells3 : Yba.prog.cellsOf 3 = 1 := by kernel_rfl
theorem Yba.cells2 : Yba.prog.cellsOf 2 = 1 := by kernel_rfl
theorem Yba.cells5 : Yba.prog.cellsOf 5 = 1 := by kernel_rfl

theorem block_of_cell {w : World} {a : Addr} {u : Value} (h : w.cell? a = some u) : a.block < w.heap.size := by
  by_cases hb : a.block < w.heap.size
  · exact hb
  · have : w.heap[a.block]? = none := by simp; omega
    simp [World.cell?, this] at h

theorem pairs_of {H : Type} {enc : TypeId × Value → H} {W : World} {t e : TypeId} {f0 f1 : Field} {k : IntKind} {fuel : Nat} {ao : Option Addr} {len cap : Nat} {x : DataW H × List MemPlace}
    (ht : Yba.prog.underlying t = some (.slice e)) (he : Yba.prog.underlying e = some (.struct #[f0, f1])) (ce : Yba.prog.cellsOf e = 2) (o0 : f0.offset = 0) (o1 : f1.offset = 1) (c0 : Yba.prog.cellsOf f0.type = 1) (c1 : Yba.prog.cellsOf f1.type = 1)
    (u0 : Yba.prog.underlying f0.type = some (.int k)) (u1 : Yba.prog.underlying f1.type = some (.int .i64))
    (h : DataW.trod enc Yba.prog W 0 (fun _ => true) true fuel t [.slice ao len cap] = some x) :
    ∃ Z0 Z1 : Nat → Int, Pairs W k ao len Z0 Z1 ∧ len ≤ maxLen ∧ ∀ i, i < len → (Lit.int k (Z0 i)).wf = true ∧ (Lit.int .i64 (Z1 i)).wf = true := by
  rcases open_slice_pairs ht he ce o0 o1 c0 c1 h with ⟨hcs, _⟩ | ⟨a, len', cap', m, n, V0, V1, D0, D1, P0, P1, hcs, _, hl, hm, hmm, _, hx⟩
  · simp at hcs
    obtain ⟨rfl, rfl, rfl⟩ := hcs
    exact ⟨fun _ => 0, fun _ => 0, fun i hi => absurd hi (Nat.not_lt_zero _), Nat.zero_le _, fun i hi => absurd hi (Nat.not_lt_zero _)⟩
  · simp only [List.cons.injEq, Value.slice.injEq, and_true] at hcs
    obtain ⟨rfl, rfl, rfl⟩ := hcs
    simp at hmm
    subst hmm
    have each : ∀ i, i < len → ∃ q : Int × Int, V0 i = .int k q.1 ∧ V1 i = .int .i64 q.2 ∧ (Lit.int k q.1).wf = true ∧ (Lit.int .i64 q.2).wf = true := by
      intro i hi
      obtain ⟨_, _, t0, t1⟩ := hx i (by omega)
      obtain ⟨z0, e0, _, w0⟩ := DataW.trod_int u0 t0
      obtain ⟨z1, e1, _, w1⟩ := DataW.trod_int u1 t1
      simp at e0 e1
      exact ⟨(z0, z1), e0, e1, w0, w1⟩
    obtain ⟨q, hq⟩ := choose_lt each
    refine ⟨fun i => (q i).1, fun i => (q i).2, fun i hi => ?_, by omega, fun i hi => (hq i hi).2.2⟩
    obtain ⟨g0, g1, _, _⟩ := hx i (by omega)
    obtain ⟨b, off, spot⟩ := a
    have hspot : spot = none := by
      have := World.cell?_spot (hx 0 (by omega)).1
      simpa [Addr.add] using this
    subst hspot
    have hb := block_of_cell g1
    rw [add_plain] at g0 g1
    rw [(hq i hi).1] at g0
    rw [(hq i hi).2.1] at g1
    exact ⟨b, off, rfl, by simpa [add_plain] using hb, g0, by rw [Nat.add_assoc]; exact g1⟩

end Go.Proofs.Ybulkdeho
