/-
  'Rows.LawS5279AWithinSaid', PROVED: the frame after the guide's shell for a law over slices, at this function's number and types; the walk: YbulkdehoWithinWalk.
-/
import Derived.Test.YbulkdehoRows
import Derived.Test.YbulkdehoWithinWalk
import Derived.WalkKit
import Derived.ProofKit
import Derived.OpenShut
import Derived.ShutString
import Derived.ChangeOld
import Derived.Below
import Derived.Deep.SlicePairs
namespace Go.Proofs.Ybulkdeho.lawS5279AWithin
open Go.ChangeShapes Go.WideShapes Go.ChangeAt Go.RowKit Go.Deep
set_option linter.unusedVariables false

theorem own : ownKnob Yba.prog.godebug = none := by kernel_rfl
theorem laidOut : laidOutB Yba.prog = true := by kernel_rfl
theorem cells32 : Yba.prog.cellsOf 32 = 3 := by kernel_rfl
theorem cells5 : Yba.prog.cellsOf 5 = 1 := by kernel_rfl
theorem cells22 : Yba.prog.cellsOf 22 = 1 := by kernel_rfl

theorem block_of_cell {w : World} {a : Addr} {u : Value} (h : w.cell? a = some u) : a.block < w.heap.size := by
  by_cases hb : a.block < w.heap.size
  · exact hb
  · have : w.heap[a.block]? = none := by simp; omega
    simp [World.cell?, this] at h

theorem trips_of {H : Type} {enc : TypeId × Value → H} {W : World} {fuel : Nat} {ao : Option Addr} {len cap : Nat} {x : DataW H × List MemPlace}
    (h : DataW.trod enc Yba.prog W 0 (fun _ => true) true fuel 30 [.slice ao len cap] = some x) :
    ∃ Z0 Z1 Z2 : Nat → Int, Trips W ao len Z0 Z1 Z2 ∧ len ≤ maxLen ∧ ∀ i, i < len → (0 ≤ Z0 i ∧ Z0 i ≤ 255) ∧ (0 ≤ Z1 i ∧ Z1 i ≤ 65535) ∧ (0 ≤ Z2 i ∧ Z2 i ≤ 65535) := by
  rcases open_slice Yba.underlying30 h with ⟨hcs, _⟩ | ⟨a, len', cap', m, n, D, Pl, hcs, _, hl, hm, hmm, _, hx⟩
  · simp at hcs
    obtain ⟨rfl, rfl, rfl⟩ := hcs
    exact ⟨fun _ => 0, fun _ => 0, fun _ => 0, fun i hi => absurd hi (Nat.not_lt_zero _), Nat.zero_le _, fun i hi => absurd hi (Nat.not_lt_zero _)⟩
  · simp only [List.cons.injEq, Value.slice.injEq, and_true] at hcs
    obtain ⟨rfl, rfl, rfl⟩ := hcs
    simp at hmm
    subst hmm
    have each : ∀ i, i < m → ∃ q : Int × Int × Int, W.cell? (a.add (i * 3)) = some (.int .u8 q.1) ∧ W.cell? (a.add (i * 3 + 1)) = some (.int .u16 q.2.1) ∧ W.cell? (a.add (i * 3 + 2)) = some (.int .u16 q.2.2) ∧
        (0 ≤ q.1 ∧ q.1 ≤ 255) ∧ (0 ≤ q.2.1 ∧ q.2.1 ≤ 65535) ∧ (0 ≤ q.2.2 ∧ q.2.2 ≤ 65535) := by
      intro i hi
      obtain ⟨cs', h1, h2⟩ := hx i hi
      rw [cells32] at h1
      obtain ⟨_, hlen, hcell⟩ := World.cells?_some h1
      obtain ⟨xs, k, hk, hxy, _, hxl, hf⟩ := DataW.trod_struct Yba.underlying32 h2
      match xs, hxl, cs', hlen with
      | [y0, y1, y2], _, [v0, v1, v2], _ =>
        have g0 := hf 0 _ rfl
        have g1 := hf 1 _ rfl
        have g2 := hf 2 _ rfl
        simp [cells5, cells22] at g0 g1 g2
        have e0 := hcell 0 (by omega)
        have e1 := hcell 1 (by omega)
        have e2 := hcell 2 (by omega)
        rw [add_add] at e0 e1 e2
        obtain ⟨z0, d0, _, w0⟩ := DataW.trod_int Yba.underlying5 g0
        obtain ⟨z1, d1, _, w1⟩ := DataW.trod_int Yba.underlying22 g1
        obtain ⟨z2, d2, _, w2⟩ := DataW.trod_int Yba.underlying22 g2
        simp at d0 d1 d2
        subst d0 d1 d2
        exact ⟨(z0, z1, z2), by simpa using e0, by simpa using e1, by simpa using e2, bounds_u8 w0, bounds_u16 w1, bounds_u16 w2⟩
    obtain ⟨q, hq⟩ := choose_lt each
    refine ⟨fun i => (q i).1, fun i => (q i).2.1, fun i => (q i).2.2, fun i hi => ?_, by omega, fun i hi => (hq i (by omega)).2.2.2⟩
    obtain ⟨g0, g1, g2, _⟩ := hq i (by omega)
    obtain ⟨b, off, spot⟩ := a
    have hspot : spot = none := by
      have := World.cell?_spot (hq 0 (by omega)).1
      simpa [Addr.add] using this
    subst hspot
    have hb := block_of_cell g1
    rw [add_plain] at g0 g1 g2
    exact ⟨b, off, rfl, by simpa [add_plain] using hb, g0, by rw [Nat.add_assoc]; exact g1, by rw [Nat.add_assoc]; exact g2⟩

set_option maxRecDepth 100000 in
theorem lifted (os : Os) (started : os.Started) (H : Type) (enc : TypeId × Value → H) :
    ReturnsInHanded {} Yba.checked os 4 .any (Rows.lawS5279AWithinSpec.pre6 enc Yba.prog Yba.f4 Rows.lawS5279AWithinRow.domain false) (Rows.lawS5279AWithinSpec.post enc Yba.prog Yba.f4 false true false false) := by
  refine returnsInHanded_of_change (C := Yba.checked) own started (by kernel_rfl) Yba.func4
    (ChangeSpec.witness6 (enc := enc) (C := Yba.checked) false ⟨#[], #[.int .u16 0, .slice none 0 0], []⟩ 8 (by kernel_rfl) (by kernel_rfl) (by kernel_rfl) (by kernel_rfl)) ?_
  intro W base args ds gs before hval0 hW hcnd _
  have hval : ∀ (j : Nat) t v, Yba.f4.params[j]? = some t → args[j]? = some v → Value.okWide Yba.prog W .any base t v := hval0
  have hW' := hW
  obtain ⟨p, q, hA0, hV, rfl, hfz, hnd⟩ := hW
  have hA : DataW.TrodAll enc Yba.prog W 0 (fun _ => true) true Yba.f4.params.toList args.toList ds p := hA0
  rw [Yba.params4] at hA hval
  obtain ⟨v0, vs0, d0, ds0, p0, q0, hargs, rfl, rfl, h0, r0⟩ := trodAll_cons hA
  obtain ⟨v1, vs1, d1, ds1, p1, q1, rfl, rfl, rfl, h1, r1⟩ := trodAll_cons r0
  obtain ⟨rfl, rfl, rfl⟩ := trodAll_nil r1
  obtain rfl : args = #[v0, v1] := by cases args; simp_all
  obtain ⟨rfl, rfl⟩ := trodVars_none hV
  obtain ⟨a0, rfl, rfl, rfl, w0⟩ := open_int Yba.underlying22 (hval 0 22 v0 rfl rfl) h0
  obtain ⟨a1, len1, cap1, rfl⟩ := okWide_slice Yba.underlying30 (hval 1 30 v1 rfl rfl)
  have k1 := h1
  have lt1 : ∀ x ∈ p1, x.block < W.heap.size := by obtain ⟨m, hm⟩ := k1; exact DataW.trod_lt m _ _ _ hm
  obtain ⟨Z0, Z1, Z2, hZ, hZl, hZb⟩ : ∃ Z0 Z1 Z2 : Nat → Int, Trips W a1 len1 Z0 Z1 Z2 ∧ len1 ≤ maxLen ∧ ∀ i, i < len1 → (0 ≤ Z0 i ∧ Z0 i ≤ 255) ∧ (0 ≤ Z1 i ∧ Z1 i ≤ 65535) ∧ (0 ≤ Z2 i ∧ Z2 i ≤ 65535) := by
    obtain ⟨fuel, hf⟩ := h1
    exact trips_of (by simpa [Value.cells] using hf)
  clear hA0 hval0
  have b0 := bounds_u16 w0
  refine (withinLaw_any a0 a1 len1 cap1 Z0 Z1 Z2 W b0.1 b0.2 hZ hZb (by unfold maxLen at hZl; omega)).mono fun e W' ⟨he, bel⟩ => ?_
  subst he
  exact ⟨_, rfl, _, _, _, [], _, [], hW', trodAll_mk1 (shut_bool Yba.underlying4 _), (trodAll_cons_mk (shut_int Yba.underlying22 w0) (trodAll_cons_mk (Below.trod laidOut (by kernel_rfl) (of_decide_eq_true (by kernel_rfl)) k1 bel lt1) trodAll_mk0)), rfl, bel.frame _, fun h => by cases h⟩

theorem over : Rows.lawS5279AWithinRow.holds Yba.pinned (OpenSpec.ofChange Rows.lawS5279AWithinSpec) :=
  OpenClaim.holds_of_wide 4 Yba.f4 rfl rfl rfl rfl rfl rfl rfl ⟨rfl, rfl, rfl, rfl, rfl⟩ rfl rfl rfl rfl rfl (by kernel_rfl) Yba.func4 (by kernel_rfl)
    (of_decide_eq_true (by kernel_rfl)) (by unfold Func.isWrapper; first | (rw [if_pos (by decide +kernel)]; kernel_rfl) | (rw [if_neg (by decide +kernel)]; exact ⟨rfl, rfl⟩))
    (fun os started H enc _ => lifted os started H enc)

/-- THE STATEMENT -/
theorem proved : Rows.LawS5279AWithinSaid := over
end Go.Proofs.Ybulkdeho.lawS5279AWithin
