/-
  THE WALKS of 'zzs5279bmodel' (function 12) and 'atMost' (function 13).
-/
import Derived.Test.YbulkdehoModelBuild
namespace Go.Proofs.Ybulkdeho
open Go.RowKit Go.Proofs.Ybulkdeho.Plain Go.Deep
set_option linter.unusedVariables false

set_option maxHeartbeats 1600000 in
set_option maxRecDepth 100000 in
theorem mdl_any (ba bb na nb ca cb : Nat) (HA CA HB CB : Nat → Int) (w : World) (hna : na ≤ 1024) (hnb : nb ≤ 1024)
    (a0 : ∀ i, i < na → w.cell? ⟨ba, i * 2, none⟩ = some (.int .i64 (HA i))) (a1 : ∀ i, i < na → w.cell? ⟨ba, i * 2 + 1, none⟩ = some (.int .i64 (CA i)))
    (b0 : ∀ i, i < nb → w.cell? ⟨bb, i * 2, none⟩ = some (.int .i64 (HB i))) (b1 : ∀ i, i < nb → w.cell? ⟨bb, i * 2 + 1, none⟩ = some (.int .i64 (CB i))) :
    Calls Yba.prog 12 #[.slice (some ⟨ba, 0, none⟩) na ca, .slice (some ⟨bb, 0, none⟩) nb cb] w fun e w' =>
      e = .returned (.tuple #[.bool (mdl HA CA HB CB na nb).1, .int .i64 (mdl HA CA HB CB na nb).2]) ∧ ∃ n, w' = w.drewN n := by
  have A0 := hid a0
  have A1 := hid a1
  have B0 := hid b0
  have B1 := hid b1
  clear a0 a1 b0 b1
  go_enter Yba.func12, Yba.ntmps12
  go_wp2
  go_loopw [6] (fun si wr => ∃ i n : Nat, i ≤ na ∧ si = .int .i64 i ∧ Hid (mdlGo HA CA HB CB na nb (na - i) i = mdl HA CA HB CB na nb) ∧ wr = w.drewN n)
    (fun si _ => na - (intOf si).toNat)
  case atStart => exact ⟨0, 0, Nat.zero_le _, rfl, rfl, rfl⟩
  case round =>
    obtain ⟨i, n, hi, rfl, HE, rfl⟩ := hrel
    by_cases hlt : i < na
    · have ga0 := A0.out i hlt
      have ga1 := A1.out i hlt
      have hlt' : (i : Int) < (na : Int) := by omega
      go_wp2
      go_loopw [7, 8, 9] (fun sl sc sk w2 => ∃ k m : Nat, k ≤ nb ∧ sk = .int .i64 k ∧ sl = .int .i64 (lessTo HB (HA i) k) ∧ sc = .int .i64 (cntTo HB CB (HA i) k) ∧ w2 = w.drewN m)
        (fun _ _ sk _ => nb - (intOf sk).toNat)
      case atStart => exact ⟨0, n, Nat.zero_le _, rfl, rfl, rfl, rfl⟩
      case round =>
        obtain ⟨k, m, hk, rfl, rfl, rfl, rfl⟩ := hrel
        have hle := lessTo_le HB (HA i) k
        by_cases hkl : k < nb
        · have gb0 := B0.out k hkl
          have gb1 := B1.out k hkl
          have hkl' : (k : Int) < (nb : Int) := by omega
          by_cases h1 : HB k < HA i
          · have e1 := hid (show lessTo HB (HA i) (k + 1) = lessTo HB (HA i) k + 1 by rw [lessTo, if_pos h1])
            have e2 := hid (show cntTo HB CB (HA i) (k + 1) = cntTo HB CB (HA i) k by rw [cntTo, if_pos h1])
            go_wp2
            go_quiet (fail)
            go_wp2
            go_roundw
            case rel => exact ⟨k + 1, m + nq, by omega, by go_num, by rw [e1.out]; go_num, by rw [e2.out], rfl⟩
            case measure => simp [intOf]; omega
          · have e1 := hid (show lessTo HB (HA i) (k + 1) = lessTo HB (HA i) k by rw [lessTo, if_neg h1])
            by_cases h2 : HB k = HA i
            · have e2 := hid (show cntTo HB CB (HA i) (k + 1) = CB k by rw [cntTo, if_neg h1, if_pos h2])
              have h2b : (HB k == HA i) = true := beq_iff_eq.2 h2
              have H2 := hid h2
              clear h2
              go_wp2
              go_quiet (fail)
              go_wp2
              go_quiet (fail)
              go_wp2
              go_roundw
              case rel => exact ⟨k + 1, _, by omega, by go_num, by rw [e1.out], by rw [e2.out], rfl⟩
              case measure => simp [intOf]; omega
            · have e2 := hid (show cntTo HB CB (HA i) (k + 1) = cntTo HB CB (HA i) k by rw [cntTo, if_neg h1, if_neg h2])
              have h2b : (HB k == HA i) = false := beq_eq_false_iff_ne.2 h2
              have H2 := hid h2
              clear h2
              go_wp2
              go_quiet (fail)
              go_wp2
              go_quiet (fail)
              go_wp2
              go_roundw
              case rel => exact ⟨k + 1, _, by omega, by go_num, by rw [e1.out], by rw [e2.out], rfl⟩
              case measure => simp [intOf]; omega
        · obtain rfl : nb = k := by omega
          go_wp2
          · go_ret2
            exact ⟨ret_pair (by rw [← HE.out]; exact mdlGo_out hlt (by assumption)), _, rfl⟩
          · have hn : CA i ≤ cntTo HB CB (HA i) nb := by assumption
            go_roundw
            case rel => exact ⟨i + 1, _, by omega, by go_num, (mdlGo_on hlt (by omega)).symm.trans HE.out, rfl⟩
            case measure => simp [intOf]; omega
    · have HN := hid (mdlGo_end (HA := HA) (CA := CA) (HB := HB) (CB := CB) (nb := nb) hlt)
      obtain rfl : na = i := by omega
      by_cases h0 : 0 < na
      · have gl : w.cell? ⟨ba, (na - 1) * 2, none⟩ = some (.int .i64 (HA (na - 1))) := A0.out (na - 1) (by omega)
        have HM := hid (show mdlEnd HA HB na nb = lessTo HB (HA (na - 1)) nb from if_pos h0)
        go_wp2
        go_loop [10, 12] (fun sl sk => ∃ k : Nat, k ≤ nb ∧ sk = .int .i64 k ∧ sl = .int .i64 (lessTo HB (HA (na - 1)) k)) (fun _ sk => nb - (intOf sk).toNat)
        case atStart => exact ⟨0, Nat.zero_le _, rfl, rfl⟩
        case round =>
          obtain ⟨k, hk, rfl, rfl⟩ := hrel
          have hle := lessTo_le HB (HA (na - 1)) k
          by_cases hkl : k < nb
          · have gb0 := B0.out k hkl
            by_cases h1 : HB k < HA (na - 1)
            · have e1 := hid (show lessTo HB (HA (na - 1)) (k + 1) = lessTo HB (HA (na - 1)) k + 1 by rw [lessTo, if_pos h1])
              go_wp2
              go_round
              case rel => exact ⟨k + 1, by omega, by go_num, by rw [e1.out]; go_num⟩
              case measure => simp [intOf]; omega
            · have e1 := hid (show lessTo HB (HA (na - 1)) (k + 1) = lessTo HB (HA (na - 1)) k by rw [lessTo, if_neg h1])
              go_wp2
              go_round
              case rel => exact ⟨k + 1, by omega, by go_num, by rw [e1.out]⟩
              case measure => simp [intOf]; omega
          · obtain rfl : nb = k := by omega
            go_wp2
            go_ret2
            exact ⟨ret_pair (by rw [← HE.out, HN.out, HM.out]), _, rfl⟩
      · have HM := hid (show mdlEnd HA HB na nb = 0 from if_neg h0)
        go_wp2
        go_ret2
        refine ⟨?_, _, rfl⟩
        have h := HE.out
        rw [HN.out, HM.out] at h
        rw [← h]
        simp

theorem atMost_any (ba bb na nb ca cb : Nat) (HA CA HB CB : Nat → Int) (w : World) (hna : na ≤ 1024) (hnb : nb ≤ 1024) (hba : ba < w.heap.size) (hbb : bb < w.heap.size)
    (a0 : ∀ i, i < na → w.cell? ⟨ba, i * 2, none⟩ = some (.int .i64 (HA i))) (a1 : ∀ i, i < na → w.cell? ⟨ba, i * 2 + 1, none⟩ = some (.int .i64 (CA i)))
    (b0 : ∀ i, i < nb → w.cell? ⟨bb, i * 2, none⟩ = some (.int .i64 (HB i))) (b1 : ∀ i, i < nb → w.cell? ⟨bb, i * 2 + 1, none⟩ = some (.int .i64 (CB i))) :
    Calls Yba.prog 13 #[.slice (some ⟨ba, 0, none⟩) na ca, .slice (some ⟨bb, 0, none⟩) nb cb] w fun e w' => e = .returned (.bool (amr HA CA HB CB na nb).1) ∧ Below w.heap.size w w' := by
  have HC := hid (amr_any ba bb na nb ca cb HA CA HB CB w hna hnb hba hbb a0 a1 b0 b1)
  clear a0 a1 b0 b1
  go_enter Yba.func13, Yba.ntmps13
  go_wp2_with (go_at_call 11; refine HC.out.mono ?_; rintro e w2 ⟨rfl, hbel2⟩)
  go_ret
  exact ⟨rfl, hbel2⟩
end Go.Proofs.Ybulkdeho
