/-
  THE WALKS of 'zzs5283bnil' (12) and 'zzs5283bsame' (11).
-/
import Derived.Test.YbulkdejsSized
import Derived.LaidEql
namespace Go.Proofs.Ybulkdejs
open Go.RowKit Go.Deep
set_option linter.unusedVariables false
set_option linter.unusedSimpArgs false

set_option maxHeartbeats 800000 in
set_option maxRecDepth 100000 in
theorem nil_any (ao : Option Addr) (n cap : Nat) (w : World) (hn : n ≤ 2000) (h : Own w 20 1 ao n cap (zf 1 zAny)) :
    Calls Yba.prog 12 #[.slice ao n cap, .int .i64 n] w fun e w' => e = .returned (.bool true) ∧ w' = w := by
  have H := hid h
  clear h
  go_enter Yba.func12, Yba.ntmps12
  go_wp2
  go_loop [5] (fun si => ∃ i : Nat, i ≤ n ∧ si = .int .i64 i) (fun si => n - (intOf si).toNat)
  case atStart => exact ⟨0, Nat.zero_le _, rfl⟩
  case round =>
    obtain ⟨i, hi, rfl⟩ := hrel
    by_cases hlt : i < n
    · obtain ⟨g, rfl, hg, c0, _⟩ := H.out.cell (j := i) (by omega)
      have c1 : w.cell? ⟨g, i, none⟩ = some .nilIface := by rw [c0]; simp [zf, zAny, Nat.mod_one, Value.cells]
      clear c0
      go_wp2
      go_round
      case rel => exact ⟨i + 1, by omega, by go_num⟩
      case measure => simp [intOf]; omega
    · go_wp2
      go_ret
      exact ⟨rfl, rfl⟩

theorem info83 : (Yba.prog.info? 83).map (fun i => i.comparable) = some true := by kernel_rfl
theorem info85 : (Yba.prog.info? 85).map (fun i => i.size) = some 1 := by kernel_rfl

/-- The same pointer in two interface values. -/
theorem run_neq_same (a : Addr) (w : World) : (binOp .neq 58 (.iface 83 (.pointer (some a))) (.iface 83 (.pointer (some a)))).run Yba.prog w = .ok (.bool false) w := by
  obtain ⟨i, hi, hic⟩ := Option.map_eq_some_iff.1 info83
  obtain ⟨j, hj, hjs⟩ := Option.map_eq_some_iff.1 info85
  simp only [binOp]
  simp [Op.equal, Op.maxDepth, run_equalIn_iface_ptr_same (P := Yba.prog) w 9998 a Yba.underlying58 Yba.underlying83 hi hic hj]

/-- What a table of processes holds: its first l entries, nil beyond. -/
def pf (l : Nat) (A : Nat → Addr) (i : Nat) : Value := if i < l then .iface 83 (.pointer (some (A i))) else .nilIface

set_option maxHeartbeats 800000 in
set_option maxRecDepth 100000 in
theorem same_any (ao ro : Option Addr) (n cap l rl : Nat) (A : Nat → Addr) (w : World) (hn : n ≤ 2000) (hl : l ≤ 2000) (h : Own w 58 1 ao n cap (pf l A)) (hr : Own w 58 1 ro l rl (pf l A)) :
    Calls Yba.prog 11 #[.slice ao n cap, .slice ro l rl, .int .i64 n] w fun e w' => e = .returned (.bool true) ∧ ∃ m, w' = w.drewN m := by
  have H := hid h
  have HR := hid hr
  clear h hr
  go_enter Yba.func11, Yba.ntmps11
  go_wp2
  go_loopw [7] (fun si wr => ∃ i m : Nat, i ≤ n ∧ si = .int .i64 i ∧ wr = w.drewN m) (fun si _ => n - (intOf si).toNat)
  case atStart => exact ⟨0, 0, Nat.zero_le _, rfl, rfl⟩
  case round =>
    obtain ⟨i, m, hi, rfl, rfl⟩ := hrel
    by_cases hlt : i < n
    · obtain ⟨g, rfl, hg, c0, _⟩ := H.out.cell (j := i) (by omega)
      by_cases hil : i < l
      · obtain ⟨g', rfl, hg', d0, _⟩ := HR.out.cell (j := i) (by omega)
        unfold pf at c0 d0
        rw [if_pos hil] at c0 d0
        have hq := run_neq_same (A i)
        have hlt' : (i : Int) < (n : Int) := by omega
        have hil' : (i : Int) < (l : Int) := by omega
        go_wp2
        go_quiet (fail)
        go_wp2
        go_roundw
        case rel => exact ⟨i + 1, _, by omega, by go_num, rfl⟩
        case measure => simp [intOf]; omega
      · unfold pf at c0
        rw [if_neg hil] at c0
        go_wp2
        go_roundw
        case rel => exact ⟨i + 1, _, by omega, by go_num, rfl⟩
        case measure => simp [intOf]; omega
    · go_wp2
      go_ret
      exact ⟨rfl, _, rfl⟩
end Go.Proofs.Ybulkdejs
