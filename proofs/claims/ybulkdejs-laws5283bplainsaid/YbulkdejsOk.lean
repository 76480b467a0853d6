/-
  THE WALK of 'zzs5283bsizedok' (10).
-/
import Derived.Test.YbulkdejsCmpB
namespace Go.Proofs.Ybulkdejs
open Go.RowKit Go.Deep
set_option linter.unusedVariables false
set_option linter.unusedSimpArgs false

/-- What 'zzs5283bfill' lays beside the tables, and what no resize turns. -/
structure Filled (w : World) (R : Nat → Value) : Prop where
  i : ∃ b, R 4 = .slice (some ⟨b, 0, none⟩) 1 1 ∧ w.rowIs b 3 1 (fun _ => .int .i64 3)
  p : ∃ b, R 9 = .slice (some ⟨b, 0, none⟩) 1 1 ∧ w.rowIs b 3 1 (fun _ => .int .i64 9)
  m : ∃ b, R 21 = .slice (some ⟨b, 0, none⟩) 2 2 ∧ w.rowIs b 3 2 (fun j => .int .i64 ((j : Int) + 1))
  e : R 22 = .int .i64 42

theorem neq_sys (N T : Int) (w : World) : (binOp .neq 31 (.agg #[.int .i64 N, .int .i64 T]) (.agg #[.int .i64 N, .int .i64 T])).run Yba.prog w = .ok (.bool false) w := by
  have u3 := Yba.underlying3
  have a3 := Yba.isAgg3
  have z3 := Yba.sizeOf3
  have hS : Yba.prog.underlying 31 = some (.struct (Yba.prog.fieldsOf 31)) := by kernel_rfl
  have hp : Yba.prog.stoodInHeld 31 = false := by kernel_rfl
  rw [run_neq_struct, show (10000 : Nat) = 9999 + 1 from rfl, run_equalIn_agg w 9999 31 _ _ hS hp]
  simp only [Program.fieldsOf, Yba.underlying31]
  go_simp
theorem neq_out (w : World) : (binOp .neq 82 (.agg #[.bool false, .bool false, .int .i64 0, .int .i64 0]) (.agg #[.bool false, .bool false, .int .i64 0, .int .i64 0])).run Yba.prog w = .ok (.bool false) w := by kernel_rfl

set_option maxHeartbeats 1600000 in
set_option maxRecDepth 100000 in
theorem sizedok_any (br n : Nat) (T : Int) (R : Nat → Value) (po ho vo : Option Addr) (kp kh kv : Nat) (w : World) (hn : n ≤ 2000) (h : w.rowIs br 39 23 R) (hf : Filled w R) (h7 : R 7 = .int .i64 n) (h8 : R 8 = .int .i64 T)
    (h5 : R 5 = .slice po n kp) (h18 : R 18 = .slice ho n kh) (h20 : R 20 = .slice vo n kv) (op : Own w 82 4 po n kp (zf 4 zOut)) (oh : Own w 3 1 ho n kh (zf 1 zInt)) (ov : Own w 20 1 vo n kv (zf 1 zAny)) :
    Calls Yba.prog 10 #[.pointer (some ⟨br, 0, none⟩), .agg #[.int .i64 n, .int .i64 T]] w fun e w' => e = .returned (.bool true) ∧ Below w.heap.size w w' := by
  obtain ⟨⟨b4, e4, r4⟩, ⟨b9, e9, r9⟩, ⟨b21, e21, r21⟩, e22⟩ := hf
  have c4 := h.cell (i := 4) (by omega)
  have c5 := h.cell (i := 5) (by omega)
  have c7 := h.cell (i := 7) (by omega)
  have c8 := h.cell (i := 8) (by omega)
  have c9 := h.cell (i := 9) (by omega)
  have c18 := h.cell (i := 18) (by omega)
  have c20 := h.cell (i := 20) (by omega)
  have c21 := h.cell (i := 21) (by omega)
  have c22 := h.cell (i := 22) (by omega)
  rw [e4] at c4; rw [h5] at c5; rw [h7] at c7; rw [h8] at c8; rw [e9] at c9; rw [h18] at c18; rw [h20] at c20; rw [e21] at c21; rw [e22] at c22
  have d4 := r4.cell (i := 0) (by omega)
  have d9 := r9.cell (i := 0) (by omega)
  have d0 : w.cell? ⟨b21, 0, none⟩ = some (.int .i64 1) := r21.cell (i := 0) (by omega)
  have d1 : w.cell? ⟨b21, 1, none⟩ = some (.int .i64 2) := r21.cell (i := 1) (by omega)
  have l0 := h.lt
  have l4 := r4.lt
  have l9 := r9.lt
  have l21 := r21.lt
  have OP := hid op
  have OH := hid oh
  have OV := hid ov
  have q1 := neq_sys n T
  have q2 := neq_out
  clear h r4 r9 r21 e4 e9 e21 e22 h5 h7 h8 h18 h20 op oh ov
  go_enter Yba.func10, Yba.ntmps10
  go_wp2_with fail
  go_quiet (fail)
  go_wp2_with (go_at_call 12; refine (nil_any vo n kv _ hn ?_).mono ?_; exact OV.out.alloc _; rintro e w' ⟨rfl, rfl⟩)
  go_loopw [6] (fun si wr => ∃ i m : Nat, i ≤ n ∧ si = .int .i64 i ∧ wr = (w.alloc (.cells #[.int .i64 n, .int .i64 T] 31)).drewN m) (fun si _ => n - (intOf si).toNat)
  case atStart => exact ⟨0, _, Nat.zero_le _, rfl, rfl⟩
  case round =>
    obtain ⟨i, m, hi, rfl, rfl⟩ := hrel
    clear d4 d9 d0 d1 c4 c9 c20 c21 c22 c7 c8 q1
    by_cases hlt : i < n
    · obtain ⟨g1, rfl, hg1, v0, _⟩ := OP.out.cell (j := i * 4) (by omega)
      obtain ⟨g2, e2, _, v1, _⟩ := OP.out.cell (j := i * 4 + 1) (by omega)
      obtain ⟨g3, e3, _, v2, _⟩ := OP.out.cell (j := i * 4 + 2) (by omega)
      obtain ⟨g4, e4, _, v3, _⟩ := OP.out.cell (j := i * 4 + 3) (by omega)
      simp at e2 e3 e4
      subst e2 e3 e4
      obtain ⟨g5, rfl, hg5, v5, _⟩ := OH.out.cell (j := i) (by omega)
      have u0 : w.cell? ⟨g1, i * 4, none⟩ = some (.bool false) := by rw [v0]; simp [zf, zOut, Value.cells]
      have u1 : w.cell? ⟨g1, i * 4 + 1, none⟩ = some (.bool false) := by rw [v1]; simp [zf, zOut, Value.cells, Nat.mul_add_mod_of_lt]
      have u2 : w.cell? ⟨g1, i * 4 + 2, none⟩ = some (.int .i64 0) := by rw [v2]; simp [zf, zOut, Value.cells, Nat.mul_add_mod_of_lt]
      have u3 : w.cell? ⟨g1, i * 4 + 3, none⟩ = some (.int .i64 0) := by rw [v3]; simp [zf, zOut, Value.cells, Nat.mul_add_mod_of_lt]
      have u5 : w.cell? ⟨g5, i, none⟩ = some (.int .i64 0) := by rw [v5]; simp [zf, zInt, Nat.mod_one, Value.cells]
      clear v0 v1 v2 v3 v5
      go_wp2_with fail
      go_roundw
      case rel => exact ⟨i + 1, _, by omega, by go_num, rfl⟩
      case measure => simp [intOf]; omega
    · go_wp2_with fail
      go_ret
      exact ⟨rfl, below_drewN ((Below.refl _ _).alloc (Nat.le_refl _) _) _⟩
end Go.Proofs.Ybulkdejs
