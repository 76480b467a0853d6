/-
  A 'ZzS5283CProc' THAT CAME IN, as the walks of this seat take it ('Zp').
-/
import Derived.Test.YbulkdejsSelfWalk
import Derived.OpenShut
import Derived.ChangeOld
import Derived.Deep.Slices
import Derived.Lib.SmallJoins
namespace Go.Proofs.Ybulkdejs
open Go.ChangeShapes Go.WideShapes Go.ChangeAt Go.RowKit Go.Deep Go.Joins
set_option linter.unusedVariables false
set_option linter.unusedSimpArgs false

theorem Yba.cells3 : Yba.prog.cellsOf 3 = 1 := by kernel_rfl
theorem Yba.cells4 : Yba.prog.cellsOf 4 = 1 := by kernel_rfl
theorem Yba.cells26 : Yba.prog.cellsOf 26 = 1 := by kernel_rfl
theorem Yba.cells63 : Yba.prog.cellsOf 63 = 1 := by kernel_rfl
theorem Yba.cells65 : Yba.prog.cellsOf 65 = 11 := by kernel_rfl
theorem Yba.cells79 : Yba.prog.cellsOf 79 = 4 := by kernel_rfl

theorem block_of_cell {w : World} {a : Addr} {u : Value} (h : w.cell? a = some u) : a.block < w.heap.size := by
  by_cases hb : a.block < w.heap.size
  · exact hb
  · have : w.heap[a.block]? = none := by simp; omega
    simp [World.cell?, this] at h

section
variable {H : Type} {enc : TypeId × Value → H} {W : World} {n : Nat} {x : DataW H × List MemPlace} {c : Value}

theorem ints_of (h : DataW.trod enc Yba.prog W 0 (fun _ => true) true n 26 [c] = some x) :
    ∃ ao len cap Z, c = .slice ao len cap ∧ Ints W ao len Z ∧ (ao = none → len = 0 ∧ cap = 0) := by
  rcases open_ints Yba.underlying26 Yba.underlying3 Yba.cells3 h with ⟨hcs, _⟩ | ⟨a, len, cap, zs, hcs, _, hl, hm, hz, _, hcell, hwz⟩
  · simp at hcs
    exact ⟨none, 0, 0, fun _ => 0, hcs, fun i hi => absurd hi (Nat.not_lt_zero _), fun _ => ⟨rfl, rfl⟩⟩
  · simp at hcs
    refine ⟨some a, len, cap, fun i => zs.getD i 0, hcs, fun i hi => ?_, fun h => by cases h⟩
    simp at hz
    obtain ⟨b, off, spot⟩ := a
    have hspot : spot = none := by simpa [Addr.add] using World.cell?_spot (hcell 0 (by omega))
    subst hspot
    have hc := hcell i (by omega)
    have hb := block_of_cell hc
    rw [add_plain] at hc hb
    exact ⟨b, off, rfl, hb, hc⟩

set_option maxRecDepth 100000 in
theorem quads_of (h : DataW.trod enc Yba.prog W 0 (fun _ => true) true n 63 [c] = some x) :
    ∃ ao len cap L V H R, c = .slice ao len cap ∧ Quads W ao len L V H R ∧ (ao = none → len = 0 ∧ cap = 0) := by
  rcases open_slice Yba.underlying63 h with ⟨hcs, _⟩ | ⟨a, len, cap, m, n', D, Pl, hcs, _, hl, hm, hmm, _, hx⟩
  · simp at hcs
    exact ⟨none, 0, 0, fun _ => 0, fun _ => 0, fun _ => false, fun _ => false, hcs, fun i hi => absurd hi (Nat.not_lt_zero _), fun _ => ⟨rfl, rfl⟩⟩
  · simp only [List.cons.injEq, and_true] at hcs
    simp at hmm
    have each : ∀ i, i < m → ∃ q : Int × Int × Bool × Bool, W.cell? (a.add (i * 4)) = some (.int .i64 q.1) ∧ W.cell? (a.add (i * 4 + 1)) = some (.int .i64 q.2.1) ∧ W.cell? (a.add (i * 4 + 2)) = some (.bool q.2.2.1) ∧ W.cell? (a.add (i * 4 + 3)) = some (.bool q.2.2.2) := by
      intro i hi
      obtain ⟨cs', h1, h2⟩ := hx i hi
      rw [Yba.cells79] at h1
      obtain ⟨_, hlen, hcell⟩ := World.cells?_some h1
      obtain ⟨xs, k, hk, hxy, _, hxl, hf⟩ := DataW.trod_struct Yba.underlying79 h2
      match xs, hxl, cs', hlen with
      | [y0, y1, y2, y3], _, [v0, v1, v2, v3], _ =>
        have g0 := hf 0 _ rfl
        have g1 := hf 1 _ rfl
        have g2 := hf 2 _ rfl
        have g3 := hf 3 _ rfl
        simp [Yba.cells3, Yba.cells4] at g0 g1 g2 g3
        have e0 := hcell 0 (by omega)
        have e1 := hcell 1 (by omega)
        have e2 := hcell 2 (by omega)
        have e3 := hcell 3 (by omega)
        rw [add_add] at e0 e1 e2 e3
        obtain ⟨z0, d0, _, w0⟩ := DataW.trod_int Yba.underlying3 g0
        obtain ⟨z1, d1, _, w1⟩ := DataW.trod_int Yba.underlying3 g1
        obtain ⟨z2, d2, _⟩ := DataW.trod_bool Yba.underlying4 g2
        obtain ⟨z3, d3, _⟩ := DataW.trod_bool Yba.underlying4 g3
        simp at d0 d1 d2 d3
        subst d0 d1 d2 d3
        exact ⟨(z0, z1, z2, z3), by simpa using e0, by simpa using e1, by simpa using e2, by simpa using e3⟩
    obtain ⟨q, hq⟩ := choose_lt each
    refine ⟨some a, len, cap, fun i => (q i).1, fun i => (q i).2.1, fun i => (q i).2.2.1, fun i => (q i).2.2.2, hcs, fun i hi => ?_, fun h => by cases h⟩
    obtain ⟨g0, g1, g2, g3⟩ := hq i (by omega)
    obtain ⟨b, off, spot⟩ := a
    have hspot : spot = none := by
      have := World.cell?_spot (hq 0 (by omega)).1
      simpa [Addr.add] using this
    subst hspot
    have hb := block_of_cell g1
    rw [add_plain] at g0 g1 g2 g3
    exact ⟨b, off, rfl, by simpa [add_plain] using hb, g0, by rw [Nat.add_assoc]; exact g1, by rw [Nat.add_assoc]; exact g2, by rw [Nat.add_assoc]; exact g3⟩
end

set_option maxRecDepth 100000 in
theorem proc_of {H : Type} {enc : TypeId × Value → H} {W : World} {r : Reach} {b0 : Nat} {v : Value} {d : DataW H} {p : List MemPlace} (hv : Value.okWide Yba.prog W r b0 65 v) (h : DataW.Trod enc Yba.prog W 0 (fun _ => true) true 65 v d p) :
    ∃ z : Zp, v = z.val ∧ z.In W := by
  obtain ⟨cs, rfl, hsz⟩ := okWide_struct Yba.underlying65 hv
  rw [Yba.cells65] at hsz
  obtain ⟨l⟩ := cs
  obtain ⟨fuel, hf⟩ := h
  obtain ⟨xs, k, hk, hxy, _, hxl, hfs⟩ := DataW.trod_struct Yba.underlying65 hf
  match l, hsz, xs, hxl with
  | [c0, c1, c2, c3, c4, c5, c6, c7, c8, c9, c10], _, [y0, y1, y2, y3, y4, y5, y6, y7, y8, y9, y10], _ =>
    have g0 := hfs 0 _ rfl
    have g1 := hfs 1 _ rfl
    have g2 := hfs 2 _ rfl
    have g3 := hfs 3 _ rfl
    have g4 := hfs 4 _ rfl
    have g5 := hfs 5 _ rfl
    have g6 := hfs 6 _ rfl
    have g7 := hfs 7 _ rfl
    have g8 := hfs 8 _ rfl
    have g9 := hfs 9 _ rfl
    have g10 := hfs 10 _ rfl
    simp [Value.cells, Yba.cells3, Yba.cells4, Yba.cells26, Yba.cells63] at g0 g1 g2 g3 g4 g5 g6 g7 g8 g9 g10
    obtain ⟨z0, d0, _, _⟩ := DataW.trod_int Yba.underlying3 g0
    obtain ⟨z1, d1, _, _⟩ := DataW.trod_int Yba.underlying3 g1
    obtain ⟨z2, d2, _, _⟩ := DataW.trod_int Yba.underlying3 g2
    obtain ⟨z3, d3, _, _⟩ := DataW.trod_int Yba.underlying3 g3
    obtain ⟨z5, d5, _, _⟩ := DataW.trod_int Yba.underlying3 g5
    obtain ⟨z6, d6, _⟩ := DataW.trod_bool Yba.underlying4 g6
    obtain ⟨z7, d7, _, _⟩ := DataW.trod_int Yba.underlying3 g7
    obtain ⟨va, nv, kv, fV, d4, iv, v0⟩ := ints_of g4
    obtain ⟨aa, na, ka, fA, d8, ia, a0⟩ := ints_of g8
    obtain ⟨ca, nc, kc, L, V, Hh, R, d9, ic, cc0⟩ := quads_of g9
    obtain ⟨ta, nt, kt, fT, d10, it, t0⟩ := ints_of g10
    simp at d0 d1 d2 d3 d5 d6 d7
    subst d0 d1 d2 d3 d4 d5 d6 d7 d8 d9 d10
    exact ⟨⟨z0, z1, z2, z3, z5, z7, z6, va, aa, ca, ta, nv, na, nc, nt, kv, ka, kc, kt, fV, fA, fT, L, V, Hh, R⟩, rfl, iv, ia, it, ic, v0, a0, t0, cc0⟩
end Go.Proofs.Ybulkdejs
