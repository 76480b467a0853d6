/-
  THE WALKS of the comparing functions: 'zzs5283cints' (17), 'zzs5283ccopies' (18).
-/
import Derived.Test.YbulkdejsMem
namespace Go.Proofs.Ybulkdejs
open Go.RowKit Go.Deep
set_option linter.unusedVariables false
set_option linter.unusedSimpArgs false

set_option maxHeartbeats 800000 in
set_option maxRecDepth 100000 in
theorem ints_any (ao bo : Option Addr) (n ca cb : Nat) (Z : Nat → Int) (w : World) (hn : n ≤ 1024) (hA : Ints w ao n Z) (hB : Ints w bo n Z) :
    Calls Yba.prog 17 #[.slice ao n ca, .slice bo n cb] w fun e w' => e = .returned (.bool true) ∧ ∃ m, w' = w.drewN m := by
  have PA := hid hA
  have PB := hid hB
  clear hA hB
  go_enter Yba.func17, Yba.ntmps17
  go_wp2
  go_loopw [5] (fun si wr => ∃ i m : Nat, i ≤ n ∧ si = .int .i64 i ∧ wr = w.drewN m) (fun si _ => n - (intOf si).toNat)
  case atStart => exact ⟨0, 0, Nat.zero_le _, rfl, rfl⟩
  case round =>
    obtain ⟨i, m, hi, rfl, rfl⟩ := hrel
    by_cases hlt : i < n
    · obtain ⟨b, off, rfl, hb, c0⟩ := PA.out i hlt
      obtain ⟨b', off', rfl, hb', c0'⟩ := PB.out i hlt
      have hlt' : (i : Int) < (n : Int) := by omega
      go_wp2
      go_quiet (fail)
      go_wp2
      go_roundw
      case rel => exact ⟨i + 1, _, by omega, by go_num, rfl⟩
      case measure => simp [intOf]; omega
    · go_wp2
      go_ret
      exact ⟨rfl, _, rfl⟩

set_option maxHeartbeats 1600000 in
set_option maxRecDepth 100000 in
theorem copies_any (ao bo : Option Addr) (n ca cb : Nat) (L V : Nat → Int) (H R : Nat → Bool) (w : World) (hn : n ≤ 1024) (hA : Quads w ao n L V H R) (hB : Quads w bo n L V H R) :
    Calls Yba.prog 18 #[.slice ao n ca, .slice bo n cb] w fun e w' => e = .returned (.bool true) ∧ ∃ m, w' = w.drewN m := by
  have PA := hid hA
  have PB := hid hB
  clear hA hB
  go_enter Yba.func18, Yba.ntmps18
  go_wp2
  go_loopw [5] (fun si wr => ∃ i m : Nat, i ≤ n ∧ si = .int .i64 i ∧ wr = w.drewN m) (fun si _ => n - (intOf si).toNat)
  case atStart => exact ⟨0, 0, Nat.zero_le _, rfl, rfl⟩
  case round =>
    obtain ⟨i, m, hi, rfl, rfl⟩ := hrel
    by_cases hlt : i < n
    · obtain ⟨b, off, rfl, hb, c0, c1, c2, c3⟩ := PA.out i hlt
      obtain ⟨b', off', rfl, hb', d0, d1, d2, d3⟩ := PB.out i hlt
      have hlt' : (i : Int) < (n : Int) := by omega
      go_wp2
      go_quiet (fail)
      go_wp2
      go_roundw
      case rel => exact ⟨i + 1, _, by omega, by go_num, rfl⟩
      case measure => simp [intOf]; omega
    · go_wp2
      go_ret
      exact ⟨rfl, _, rfl⟩
end Go.Proofs.Ybulkdejs
