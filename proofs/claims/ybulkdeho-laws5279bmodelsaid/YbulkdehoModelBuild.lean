/-
  THE WALK of 'zzs5279bbuild' (function 10).
-/
import Derived.Test.YbulkdehoBoundsWalk
import Derived.Test.YbulkdehoModelPlain
namespace Go.Proofs.Ybulkdeho
open Go.RowKit Go.Proofs.Ybulkdeho.Plain Go.Deep
set_option linter.unusedVariables false

set_option maxHeartbeats 800000 in
set_option maxRecDepth 100000 in
theorem build_any (ao : Option Addr) (n c : Nat) (G C : Nat → Int) (w : World) (hA : Pairs w .u8 ao n G C) (hG : ∀ i, i < n → 0 ≤ G i ∧ G i ≤ 255) (hn : n ≤ 1024) :
    Calls Yba.prog 10 #[.slice ao n c] w fun e w' => e = .returned (.slice (some ⟨w.heap.size, 0, none⟩) n n) ∧ (∀ i, i < n → w'.cell? ⟨w.heap.size, i * 2, none⟩ = some (.int .i64 (acc G (i + 1)))) ∧
      (∀ i, i < n → w'.cell? ⟨w.heap.size, i * 2 + 1, none⟩ = some (.int .i64 (C i))) ∧ Below w.heap.size w w' ∧ w.heap.size < w'.heap.size := by
  have PA := hid hA
  have PG := hid hG
  clear hA hG
  have hm := run_make_entries n 0 (Nat.zero_le _) hn
  rw [show ((0 : Nat) : Int) = 0 from rfl] at hm
  go_enter Yba.func10, Yba.ntmps10
  go_wp2
  go_loopw [3, 4, 12] (fun so sh si wr => ∃ k : Nat, k ≤ n ∧ si = .int .i64 k ∧ sh = .int .i64 (acc G k) ∧ so = .slice (some ⟨w.heap.size, 0, none⟩) k n ∧ wr.rowIs w.heap.size 46 (n * 2) (cellF (fun i => acc G (i + 1)) C k) ∧ Below w.heap.size w wr)
    (fun _ _ si _ => n - (intOf si).toNat)
  case atStart => exact ⟨0, Nat.zero_le _, rfl, rfl, rfl, rowIs_Zrow _ _ _ _, (Below.refl _ _).alloc (Nat.le_refl _) _⟩
  case round =>
    obtain ⟨k, hk, rfl, rfl, rfl, hrow, hbel⟩ := hrel
    clear hm
    have hab := acc_bounds G k
    have hsz := hrow.lt
    by_cases hlt : k < n
    · obtain ⟨b, off, rfl, hb, c0, c1⟩ := PA.out k hlt
      have hc0 : wr.cell? ⟨b, off + k * 2, none⟩ = some (.int .u8 (G k)) := (hbel.cell (by exact hb)).trans c0
      have hc1 : wr.cell? ⟨b, off + k * 2 + 1, none⟩ = some (.int .i64 (C k)) := (hbel.cell (by exact hb)).trans c1
      have hg := PG.out k hlt
      have r0 := hrow.cell (i := k * 2) (by omega)
      have r1 := hrow.cell (i := k * 2 + 1) (by omega)
      have f0 := hrow.frozen (k * 2)
      have f1 := hrow.frozen (k * 2 + 1)
      have HR := hid hrow
      clear c0 c1 hrow
      go_wp2
      go_roundw
      case rel => exact ⟨k + 1, by omega, by go_num, rfl, rfl, ((rowIs_entry HR.out).alloc _).alloc _, (((hbel.setCell (p := ⟨w.heap.size, k * 2, none⟩) (Nat.le_refl _) _).setCell (p := ⟨w.heap.size, k * 2 + 1, none⟩) (Nat.le_refl _) _).alloc (by simp; omega) _).alloc (by simp; omega) _⟩
      case measure => simp [intOf]; omega
    · obtain rfl : n = k := by omega
      go_wp2
      go_ret
      exact ⟨rfl, fun i hi => by rw [hrow.cell (by omega), cellF_even hi], fun i hi => by rw [hrow.cell (by omega), cellF_odd hi], hbel, hsz⟩
end Go.Proofs.Ybulkdeho
