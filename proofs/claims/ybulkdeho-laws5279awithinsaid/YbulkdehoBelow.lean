/-
  THE WALK of 'below' (function 14), and Go's 'i & -i'.
-/
import Derived.Test.YbulkdehoCnt
namespace Go.Proofs.Ybulkdeho
open Go.RowKit Go.Proofs.Ybulkdeho.Plain Go.Deep
set_option linter.unusedVariables false

theorem and_lb_all : ((List.range 512).all fun i => decide (bits BinOp.and IntKind.i64 (i : Int) (-(i : Int)) = (lb i : Int))) = true := by decide +kernel
/-- Go's 'i & -i'. -/
theorem and_lb {i : Nat} (h : i < 512) : bits BinOp.and IntKind.i64 (i : Int) (-(i : Int)) = (lb i : Int) := of_decide_eq_true (List.all_eq_true.1 and_lb_all i (List.mem_range.2 h))

theorem ret_i {a b : Int} (h : a = b) : Ending.returned (.int .i64 a) = .returned (.int .i64 b) := by rw [h]

set_option maxHeartbeats 800000 in
set_option maxRecDepth 100000 in
theorem below_any (bc bt sz pl : Nat) (M : Nat → Int) (adds top : Int) (w : World) (hs : sz ≤ 300) (hp : pl ≤ sz) (ha : adds ≤ 1024) (hinv : Inv w bc bt sz M true adds top) :
    Calls Yba.prog 14 #[.pointer (some ⟨bc, 0, none⟩), .int .i64 pl] w fun e w' => e = .returned (.int .i64 (sm M pl)) ∧ w' = w := by
  have c0 : w.cell? ⟨bc, 0, none⟩ = some (.slice (some ⟨bt, 0, none⟩) (sz + 1) (sz + 1)) := hinv.head.cell (i := 0) (by omega)
  have c2 : w.cell? ⟨bc, 2, none⟩ = some (.int .i64 adds) := hinv.head.cell (i := 2) (by omega)
  have HI := hidc hinv
  clear hinv
  by_cases hq : pl = sz
  · subst hq
    go_enter Yba.func14, Yba.ntmps14
    go_wp2
    go_ret
    exact ⟨ret_i HI.out.book.tot.symm, rfl⟩
  · go_enter Yba.func14, Yba.ntmps14
    go_wp2
    go_loop [5, 6] (fun sn si => ∃ i : Nat, i ≤ pl ∧ si = .int .i64 i ∧ sn = .int .i64 (sm M pl - sm M i)) (fun _ si => (intOf si).toNat)
    case atStart => exact ⟨pl, Nat.le_refl _, rfl, by rw [Int.sub_self]⟩
    case round =>
      obtain ⟨i, hi, rfl, rfl⟩ := hrel
      by_cases h0 : 0 < i
      · have t0 := HI.out.tree.cell (i := i) (by omega)
        have hb := and_lb (i := i) (by omega)
        have hl := lb_pos h0 (by omega)
        have hx := HI.out.book.sum hi hp
        have hy := HI.out.book.tr true (i := i) (by omega)
        go_wp2
        go_round
        case rel => exact ⟨i - lb i, by omega, by go_num, congrArg (Value.int .i64) (by simp [tr]; omega)⟩
        case measure => simp [intOf]; omega
      · go_wp2
        go_ret
        exact ⟨ret_i (by rw [show i = 0 from by omega]; simp [sm]), rfl⟩
end Go.Proofs.Ybulkdeho
