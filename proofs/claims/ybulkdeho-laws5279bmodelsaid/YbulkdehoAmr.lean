/-
  THE WALK of 'atMostReading' (function 11), shared by LawS5279BBounds and LawS5279BModel.
-/
import Derived.Test.YbulkdehoRows
import Derived.Test.YbulkdehoPlain
import Derived.WalkKit
import Derived.ProofKit
import Derived.Below
import Derived.WalkSmall
import Derived.BigQuiet
import Derived.Deep.QuietTactic
namespace Go.Proofs.Ybulkdeho
open Go.RowKit Go.Proofs.Ybulkdeho.Plain
set_option linter.unusedVariables false

theorem ret_pair {r : Bool × Nat} {b : Bool} {i j : Nat} (h : r = (b, i + j)) : Ending.returned (.tuple #[.bool b, .int .i64 ((i : Int) + (j : Int))]) = .returned (.tuple #[.bool r.1, .int .i64 r.2]) := by
  subst h; simp

set_option maxHeartbeats 800000 in
set_option maxRecDepth 100000 in
theorem amr_any (ba bb na nb ca cb : Nat) (HA CA HB CB : Nat → Int) (w : World) (hna : na ≤ 1024) (hnb : nb ≤ 1024) (hba : ba < w.heap.size) (hbb : bb < w.heap.size)
    (a0 : ∀ i, i < na → w.cell? ⟨ba, i * 2, none⟩ = some (.int .i64 (HA i))) (a1 : ∀ i, i < na → w.cell? ⟨ba, i * 2 + 1, none⟩ = some (.int .i64 (CA i)))
    (b0 : ∀ i, i < nb → w.cell? ⟨bb, i * 2, none⟩ = some (.int .i64 (HB i))) (b1 : ∀ i, i < nb → w.cell? ⟨bb, i * 2 + 1, none⟩ = some (.int .i64 (CB i))) :
    Calls Yba.prog 11 #[.slice (some ⟨ba, 0, none⟩) na ca, .slice (some ⟨bb, 0, none⟩) nb cb] w fun e w' =>
      e = .returned (.tuple #[.bool (amr HA CA HB CB na nb).1, .int .i64 (amr HA CA HB CB na nb).2]) ∧ Below w.heap.size w w' := by
  have A0 : Hid (∀ i, i < na → w.cell? ⟨ba, i * 2, none⟩ = some (.int .i64 (HA i))) := a0
  have A1 : Hid (∀ i, i < na → w.cell? ⟨ba, i * 2 + 1, none⟩ = some (.int .i64 (CA i))) := a1
  have B0 : Hid (∀ i, i < nb → w.cell? ⟨bb, i * 2, none⟩ = some (.int .i64 (HB i))) := b0
  have B1 : Hid (∀ i, i < nb → w.cell? ⟨bb, i * 2 + 1, none⟩ = some (.int .i64 (CB i))) := b1
  clear a0 a1 b0 b1
  go_enter Yba.func11, Yba.ntmps11
  go_wp2
  go_loopw [6, 12] (fun sj si wr => ∃ i j : Nat, i ≤ na ∧ j ≤ nb ∧ sj = .int .i64 j ∧ si = .int .i64 i ∧ Hid (amrGo HA CA HB CB na nb (na - i) i j = amr HA CA HB CB na nb) ∧ Below w.heap.size w wr)
    (fun _ si _ => na - (intOf si).toNat)
  case atStart => exact ⟨0, 0, Nat.zero_le _, Nat.zero_le _, rfl, rfl, rfl, Below.refl _ _⟩
  case round =>
    obtain ⟨i, j, hi, hj, rfl, rfl, HE, hbel⟩ := hrel
    have hsz := hbel.size
    by_cases hlt : i < na
    · have ga0 : wr.cell? ⟨ba, i * 2, none⟩ = some (.int .i64 (HA i)) := (hbel.cell (by exact hba)).trans (A0.out i hlt)
      have ga1 : wr.cell? ⟨ba, i * 2 + 1, none⟩ = some (.int .i64 (CA i)) := (hbel.cell (by exact hba)).trans (A1.out i hlt)
      have hbw : bb < wr.heap.size := by omega
      have gb0 : ∀ k, k < nb → wr.cell? ⟨bb, k * 2, none⟩ = some (.int .i64 (HB k)) := fun k hk => (hbel.cell (by exact hbb)).trans (B0.out k hk)
      have gb1 : ∀ k, k < nb → wr.cell? ⟨bb, k * 2 + 1, none⟩ = some (.int .i64 (CB k)) := fun k hk => (hbel.cell (by exact hbb)).trans (B1.out k hk)
      have G0 : Hid (∀ k, k < nb → wr.cell? ⟨bb, k * 2, none⟩ = some (.int .i64 (HB k))) := gb0
      have G1 : Hid (∀ k, k < nb → wr.cell? ⟨bb, k * 2 + 1, none⟩ = some (.int .i64 (CB k))) := gb1
      clear gb0 gb1
      go_wp2
      go_loopw [6] (fun sj w2 => ∃ j2 n : Nat, j ≤ j2 ∧ j2 ≤ nb ∧ sj = .int .i64 j2 ∧ Hid (∀ t, j ≤ t → t < j2 → HB t < HA i) ∧ w2 = (wr.alloc (Obj.cells #[Value.int .i64 (HA i), Value.int .i64 (CA i)] 46)).drewN n)
        (fun sj _ => nb - (intOf sj).toNat)
      case atStart => exact ⟨j, 0, Nat.le_refl _, hj, rfl, fun t h1 h2 => absurd h1 (by omega), rfl⟩
      case round =>
        obtain ⟨j2, n, hj1, hj2, rfl, HT, rfl⟩ := hrel
        clear ga0 ga1
        by_cases hjl : j2 < nb
        · have g0 := G0.out j2 hjl
          have hjl' : (j2 : Int) < (nb : Int) := by omega
          by_cases hh : HB j2 < HA i
          · go_wp2
            go_quiet (fail)
            go_wp2
            go_roundw
            case rel => exact ⟨j2 + 1, n + nq, by omega, by omega, by go_num, fun t h1 h2 => by by_cases e : t = j2; exact e ▸ hh; exact HT.out t h1 (by omega), rfl⟩
            case measure => simp [intOf]; omega
          · have hs : Hid (¬ (j2 < nb ∧ HB j2 < HA i)) := fun h => hh h.2
            go_wp2
            go_quiet (fail)
            go_wp2
            go_quiet (fail)
            have g1 := G1.out j2 hjl
            go_wp2
            · have hc : cntAt HB CB nb (HA i) j2 = CB j2 := if_pos ⟨hjl, beq_iff_eq.1 (by assumption)⟩
              go_ret2
              exact ⟨ret_pair (by rw [← HE.out]; exact amrGo_out hlt hj1 hj2 HT.out hs.out hc (by assumption)), by first | exact below_drewN (hbel.alloc hsz _) _ | exact below_drewN (below_drewN (hbel.alloc hsz _) _) _⟩
            · have hc : cntAt HB CB nb (HA i) j2 = CB j2 := if_pos ⟨hjl, beq_iff_eq.1 (by assumption)⟩
              have hn : CA i ≤ CB j2 := by assumption
              go_roundw
              case rel => exact ⟨i + 1, j2, by omega, hj2, rfl, by go_num, (amrGo_on hlt hj1 hj2 HT.out hs.out hc (by omega)).symm.trans HE.out, by first | exact below_drewN (hbel.alloc hsz _) _ | exact below_drewN (below_drewN (hbel.alloc hsz _) _) _⟩
              case measure => simp [intOf]; omega
            · have hc : cntAt HB CB nb (HA i) j2 = 0 := if_neg fun h => beq_eq_false_iff_ne.1 (by assumption) h.2
              go_ret2
              exact ⟨ret_pair (by rw [← HE.out]; exact amrGo_out hlt hj1 hj2 HT.out hs.out hc (by assumption)), by first | exact below_drewN (hbel.alloc hsz _) _ | exact below_drewN (below_drewN (hbel.alloc hsz _) _) _⟩
            · have hc : cntAt HB CB nb (HA i) j2 = 0 := if_neg fun h => beq_eq_false_iff_ne.1 (by assumption) h.2
              have hn : CA i ≤ 0 := by assumption
              go_roundw
              case rel => exact ⟨i + 1, j2, by omega, hj2, rfl, by go_num, (amrGo_on hlt hj1 hj2 HT.out hs.out hc (by omega)).symm.trans HE.out, by first | exact below_drewN (hbel.alloc hsz _) _ | exact below_drewN (below_drewN (hbel.alloc hsz _) _) _⟩
              case measure => simp [intOf]; omega
        · have hd : decide ((j2 : Int) < (nb : Int)) = false := decide_eq_false (by omega)
          have hs : Hid (¬ (j2 < nb ∧ HB j2 < HA i)) := fun h => hjl h.1
          have hc : Hid (cntAt HB CB nb (HA i) j2 = 0) := if_neg fun h => hjl h.1
          go_wp2
          go_quiet (fail)
          go_wp2
          go_quiet (fail)
          go_wp2
          · go_ret2
            exact ⟨ret_pair (by rw [← HE.out]; exact amrGo_out hlt hj1 hj2 HT.out hs.out hc.out (by assumption)), by first | exact below_drewN (hbel.alloc hsz _) _ | exact below_drewN (below_drewN (hbel.alloc hsz _) _) _⟩
          · have hn : CA i ≤ 0 := by assumption
            go_roundw
            case rel => exact ⟨i + 1, j2, by omega, hj2, rfl, by go_num, (amrGo_on hlt hj1 hj2 HT.out hs.out hc.out (by omega)).symm.trans HE.out, by first | exact below_drewN (hbel.alloc hsz _) _ | exact below_drewN (below_drewN (hbel.alloc hsz _) _) _⟩
            case measure => simp [intOf]; omega
    · go_wp2
      go_ret2
      exact ⟨by rw [← HE.out, amrGo_end hlt]; simp, hbel⟩
end Go.Proofs.Ybulkdeho
