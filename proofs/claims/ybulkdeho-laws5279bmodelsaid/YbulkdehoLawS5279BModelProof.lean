/-
  'Rows.LawS5279BModelSaid', PROVED: the frame after the guide's shell for a law over slices, at this function's number and types; the walk: YbulkdehoModelWalk.
-/
import Derived.Test.YbulkdehoRows
import Derived.Test.YbulkdehoPairs
import Derived.Test.YbulkdehoModelWalk
import Derived.WalkKit
import Derived.ProofKit
import Derived.OpenShut
import Derived.ShutString
import Derived.ChangeOld
import Derived.Below
namespace Go.Proofs.Ybulkdeho.lawS5279BModel
open Go.ChangeShapes Go.WideShapes Go.ChangeAt Go.RowKit
set_option linter.unusedVariables false

theorem own : ownKnob Yba.prog.godebug = none := by kernel_rfl
theorem laidOut : laidOutB Yba.prog = true := by kernel_rfl

set_option maxRecDepth 100000 in
theorem lifted (os : Os) (started : os.Started) (H : Type) (enc : TypeId × Value → H) :
    ReturnsInHanded {} Yba.checked os 5 .any (Rows.lawS5279BModelSpec.pre6 enc Yba.prog Yba.f5 Rows.lawS5279BModelRow.domain false) (Rows.lawS5279BModelSpec.post enc Yba.prog Yba.f5 false true false false) := by
  refine returnsInHanded_of_change (C := Yba.checked) own started (by kernel_rfl) Yba.func5
    (ChangeSpec.witness6 (enc := enc) (C := Yba.checked) false ⟨#[], #[.slice none 0 0, .slice none 0 0], []⟩ 8 (by kernel_rfl) (by kernel_rfl) (by kernel_rfl) (by kernel_rfl)) ?_
  intro W base args ds gs before hval0 hW hcnd _
  have hval : ∀ (j : Nat) t v, Yba.f5.params[j]? = some t → args[j]? = some v → Value.okWide Yba.prog W .any base t v := hval0
  have hW' := hW
  obtain ⟨p, q, hA0, hV, rfl, hfz, hnd⟩ := hW
  have hA : DataW.TrodAll enc Yba.prog W 0 (fun _ => true) true Yba.f5.params.toList args.toList ds p := hA0
  rw [Yba.params5] at hA hval
  obtain ⟨v0, vs0, d0, ds0, p0, q0, hargs, rfl, rfl, h0, r0⟩ := trodAll_cons hA
  obtain ⟨v1, vs1, d1, ds1, p1, q1, rfl, rfl, rfl, h1, r1⟩ := trodAll_cons r0
  obtain ⟨rfl, rfl, rfl⟩ := trodAll_nil r1
  obtain rfl : args = #[v0, v1] := by cases args; simp_all
  obtain ⟨rfl, rfl⟩ := trodVars_none hV
  obtain ⟨a0, len0, cap0, rfl⟩ := okWide_slice Yba.underlying35 (hval 0 35 v0 rfl rfl)
  obtain ⟨a1, len1, cap1, rfl⟩ := okWide_slice Yba.underlying35 (hval 1 35 v1 rfl rfl)
  have k0 := h0
  have k1 := h1
  have lt0 : ∀ x ∈ p0, x.block < W.heap.size := by obtain ⟨m, hm⟩ := k0; exact DataW.trod_lt m _ _ _ hm
  have lt1 : ∀ x ∈ p1, x.block < W.heap.size := by obtain ⟨m, hm⟩ := k1; exact DataW.trod_lt m _ _ _ hm
  obtain ⟨HA, CA, hp0, hm0, hg0⟩ : ∃ Z0 Z1 : Nat → Int, Pairs W .u8 a0 len0 Z0 Z1 ∧ len0 ≤ maxLen ∧ ∀ i, i < len0 → (Lit.int .u8 (Z0 i)).wf = true ∧ (Lit.int .i64 (Z1 i)).wf = true := by
    obtain ⟨fuel, hf⟩ := h0
    exact pairs_of Yba.underlying35 Yba.underlying51 Yba.cells51 rfl rfl Yba.cells5 Yba.cells2 Yba.underlying5 Yba.underlying2 (by simpa [Value.cells] using hf)
  obtain ⟨HB, CB, hp1, hm1, hg1⟩ : ∃ Z0 Z1 : Nat → Int, Pairs W .u8 a1 len1 Z0 Z1 ∧ len1 ≤ maxLen ∧ ∀ i, i < len1 → (Lit.int .u8 (Z0 i)).wf = true ∧ (Lit.int .i64 (Z1 i)).wf = true := by
    obtain ⟨fuel, hf⟩ := h1
    exact pairs_of Yba.underlying35 Yba.underlying51 Yba.cells51 rfl rfl Yba.cells5 Yba.cells2 Yba.underlying5 Yba.underlying2 (by simpa [Value.cells] using hf)
  clear hA0 hval0
  refine (model_any a0 a1 len0 len1 cap0 cap1 HA CA HB CB W hp0 hp1 (fun i hi => bounds_u8 (hg0 i hi).1) (fun i hi => bounds_u8 (hg1 i hi).1) (by unfold maxLen at hm0; omega) (by unfold maxLen at hm1; omega)).mono fun e W' ⟨he, bel⟩ => ?_
  subst he
  exact ⟨_, rfl, _, _, _, [], _, [], hW', trodAll_mk1 (shut_bool Yba.underlying4 _), (trodAll_cons_mk (Below.trod laidOut (by kernel_rfl) (of_decide_eq_true (by kernel_rfl)) k0 bel lt0) (trodAll_cons_mk (Below.trod laidOut (by kernel_rfl) (of_decide_eq_true (by kernel_rfl)) k1 bel lt1) trodAll_mk0)), rfl, bel.frame _, fun h => by cases h⟩

theorem over : Rows.lawS5279BModelRow.holds Yba.pinned (OpenSpec.ofChange Rows.lawS5279BModelSpec) :=
  OpenClaim.holds_of_wide 5 Yba.f5 rfl rfl rfl rfl rfl rfl rfl ⟨rfl, rfl, rfl, rfl, rfl⟩ rfl rfl rfl rfl rfl (by kernel_rfl) Yba.func5 (by kernel_rfl)
    (of_decide_eq_true (by kernel_rfl)) (by unfold Func.isWrapper; first | (rw [if_pos (by decide +kernel)]; kernel_rfl) | (rw [if_neg (by decide +kernel)]; exact ⟨rfl, rfl⟩))
    (fun os started H enc _ => lifted os started H enc)

/-- THE STATEMENT -/
theorem proved : Rows.LawS5279BModelSaid := over
end Go.Proofs.Ybulkdeho.lawS5279BModel
