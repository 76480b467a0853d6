/-
  THE WALK of 'LawS5279BModel' (function 5).
-/
import Derived.Test.YbulkdehoModelMdl
namespace Go.Proofs.Ybulkdeho
open Go.RowKit Go.Proofs.Ybulkdeho.Plain Go.Deep
set_option linter.unusedVariables false

theorem Pairs.later {w w' : World} {k : IntKind} {ao : Option Addr} {len : Nat} {Z0 Z1 : Nat → Int} (h : Pairs w k ao len Z0 Z1) (hb : Below w.heap.size w w') : Pairs w' k ao len Z0 Z1 := by
  intro i hi
  obtain ⟨b, off, e, hlt, c0, c1⟩ := h i hi
  have hs := hb.size
  exact ⟨b, off, e, by omega, (hb.cell (by exact hlt)).trans c0, (hb.cell (by exact hlt)).trans c1⟩

set_option maxHeartbeats 1600000 in
set_option maxRecDepth 100000 in
theorem model_any (ao bo : Option Addr) (na nb ca cb : Nat) (GA CA GB CB : Nat → Int) (w : World) (hA : Pairs w .u8 ao na GA CA) (hB : Pairs w .u8 bo nb GB CB)
    (hGA : ∀ i, i < na → 0 ≤ GA i ∧ GA i ≤ 255) (hGB : ∀ i, i < nb → 0 ≤ GB i ∧ GB i ≤ 255) (hna : na ≤ 9223372036854775807) (hnb : nb ≤ 9223372036854775807) :
    Calls Yba.prog 5 #[.slice ao na ca, .slice bo nb cb] w fun e w' => e = .returned (.bool true) ∧ Below w.heap.size w w' := by
  have PA := hid hA
  have PB := hid hB
  have QA := hid hGA
  have QB := hid hGB
  clear hA hB hGA hGB
  by_cases h1 : 1024 < na
  · go_enter Yba.func5, Yba.ntmps5
    go_wp2
    go_ret
    exact ⟨rfl, Below.refl _ _⟩
  by_cases h2 : 1024 < nb
  · go_enter Yba.func5, Yba.ntmps5
    go_wp2
    go_ret
    exact ⟨rfl, Below.refl _ _⟩
  go_enter Yba.func5, Yba.ntmps5
  go_wp2_with fail
  refine (build_any ao na ca GA CA w PA.out QA.out (by omega)).mono ?_
  rintro e w1 ⟨rfl, a0, a1, bel1, lt1⟩
  have X0 := hid a0
  have X1 := hid a1
  clear a0 a1
  go_wp2_with fail
  refine (build_any bo nb cb GB CB w1 (PB.out.later bel1) QB.out (by omega)).mono ?_
  rintro e w2 ⟨rfl, b0, b1, bel2, lt2⟩
  have Y0 := hid b0
  have Y1 := hid b1
  clear b0 b1
  have a0 : ∀ i, i < na → w2.cell? ⟨w.heap.size, i * 2, none⟩ = some (.int .i64 (acc GA (i + 1))) := fun i hi => (bel2.cell (by exact lt1)).trans (X0.out i hi)
  have a1 : ∀ i, i < na → w2.cell? ⟨w.heap.size, i * 2 + 1, none⟩ = some (.int .i64 (CA i)) := fun i hi => (bel2.cell (by exact lt1)).trans (X1.out i hi)
  have hl1 : w.heap.size < w2.heap.size := by have := bel2.size; omega
  have V0 := hid a0
  have V1 := hid a1
  clear a0 a1
  have C1 := amr_any w.heap.size w1.heap.size na nb na nb (fun i => acc GA (i + 1)) CA (fun i => acc GB (i + 1)) CB w2 (by omega) (by omega) hl1 lt2 V0.out V1.out Y0.out Y1.out
  have hsame := amr_same (CA := CA) (CB := CB) (acc_asc GA na) (acc_asc GB nb)
  generalize hr : amr (fun i => acc GA (i + 1)) CA (fun i => acc GB (i + 1)) CB na nb = r at C1 hsame
  obtain ⟨ok, pas⟩ := r
  have HR := hid hr
  have HS := hid hsame
  have K1 := hid C1
  clear C1 hr hsame
  go_wp2_with fail
  refine K1.out.mono ?_
  rintro e w3 ⟨rfl, bel3⟩
  have s3 := bel3.size
  have C2 := mdl_any w.heap.size w1.heap.size na nb na nb (fun i => acc GA (i + 1)) CA (fun i => acc GB (i + 1)) CB w3 (by omega) (by omega) (fun i hi => (bel3.cell (by exact hl1)).trans (V0.out i hi)) (fun i hi => (bel3.cell (by exact hl1)).trans (V1.out i hi)) (fun i hi => (bel3.cell (by exact lt2)).trans (Y0.out i hi)) (fun i hi => (bel3.cell (by exact lt2)).trans (Y1.out i hi))
  rw [HS.out] at C2
  have K2 := hid C2
  clear C2
  go_wp2_with fail
  refine K2.out.mono ?_
  rintro e w4 ⟨rfl, n, rfl⟩
  have C3 := atMost_any w.heap.size w1.heap.size na nb na nb (fun i => acc GA (i + 1)) CA (fun i => acc GB (i + 1)) CB (w3.drewN n) (by omega) (by omega) (by show w.heap.size < w3.heap.size; omega) (by show w1.heap.size < w3.heap.size; omega) (fun i hi => (bel3.cell (by exact hl1)).trans (V0.out i hi)) (fun i hi => (bel3.cell (by exact hl1)).trans (V1.out i hi)) (fun i hi => (bel3.cell (by exact lt2)).trans (Y0.out i hi)) (fun i hi => (bel3.cell (by exact lt2)).trans (Y1.out i hi))
  rw [HR.out] at C3
  have K3 := hid C3
  clear C3
  go_wp2_with fail
  refine K3.out.mono ?_
  rintro e w5 ⟨rfl, bel5⟩
  go_wp2_with fail
  go_ret
  refine ⟨by simp, ?_⟩
  exact (((bel1.trans (bel2.mono (by omega))).trans (bel3.mono (by omega))).trans ((below_drewN (Below.refl _ _) n).trans (bel5.mono (by show w.heap.size ≤ w3.heap.size; omega))))
end Go.Proofs.Ybulkdeho
