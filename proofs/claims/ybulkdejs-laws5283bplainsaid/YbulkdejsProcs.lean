/-
  THE WALK of 'zzs5283bprocs' (8).
-/
import Derived.Test.YbulkdejsOk
namespace Go.Proofs.Ybulkdejs
open Go.RowKit Go.Deep
set_option linter.unusedVariables false
set_option linter.unusedSimpArgs false

/-- The block that 'make([]Process, l, c)' lays. -/
def Prow (c : Nat) : Obj := .cells (madeCells #[.nilIface] c) 58
theorem run_make_procs (l c : Nat) (hl : l ≤ c) (hc : c ≤ 2000) (w : World) : (Instr.makeSlice 41 (.int .i64 (l : Int)) (.int .i64 (c : Int))).run Yba.prog w = .ok (.slice (some ⟨w.heap.size, 0, none⟩) l c) (w.alloc (Prow c)) := by
  obtain ⟨i, hi, hz0, hz1, hz2⟩ := info_parts Yba.info58
  have hr := run_make (P := Yba.prog) w 41 58 i _ Yba.underlying41 hi hz0 .i64 .i64 (l : Int) (c : Int) (by omega) (by omega) (by rw [hz2]; omega) (by omega)
  simp only [Int.toNat_natCast, hz1, Nat.mul_one] at hr
  exact hr

theorem pf_start (w : World) (c : Nat) (A : Nat → Addr) : (w.alloc (Prow c)).rowIs w.heap.size 58 c (pf 0 A) :=
  (World.rowIs_made w .nilIface c 58).congr fun i _ => by simp [pf]

theorem pf_step {w : World} {b c i : Nat} {A : Nat → Addr} {a : Addr} (h : w.rowIs b 58 c (pf i A)) : (w.setCell ⟨b, i, none⟩ (.iface 83 (.pointer (some a)))).rowIs b 58 c (pf (i + 1) (fun j => if j = i then a else A j)) := by
  refine (h.set i _).congr fun j hj => ?_
  unfold pf
  by_cases e : j = i
  · subst e
    rw [if_pos rfl, if_pos (by omega)]
    simp
  · rw [if_neg e]
    by_cases h1 : j < i
    · rw [if_pos h1, if_pos (by omega)]
      simp [e]
    · rw [if_neg h1, if_neg (by omega)]

theorem own_row {w : World} {b e n : Nat} {f : Nat → Value} (h : w.rowIs b e n f) (hn : n ≤ 4000) : Own w e 1 (some ⟨b, 0, none⟩) n n f := by
  obtain ⟨cur, h1, h2, h3⟩ := h
  exact .inr ⟨b, cur, rfl, h1, Nat.le_refl _, by unfold maxLen; omega, by omega, fun j hj => h3 j (by omega)⟩

/-- What 'zzs5283bprocs(base, l, c)' leaves. -/
def Procs (w : World) (l c : Nat) (e : Ending) (w' : World) : Prop :=
  ∃ A, e = .returned (.tuple #[.slice (some ⟨w.heap.size, 0, none⟩) l c, .slice (some ⟨w.heap.size + 1, 0, none⟩) l l]) ∧ Own w' 58 1 (some ⟨w.heap.size, 0, none⟩) c c (pf l A) ∧ Own w' 58 1 (some ⟨w.heap.size + 1, 0, none⟩) l l (pf l A) ∧ Below w.heap.size w w' ∧ w.heap.size + 1 < w'.heap.size

set_option maxHeartbeats 800000 in
set_option maxRecDepth 100000 in
theorem procs_any (b0 : Int) (l c : Nat) (w : World) (hb : 0 ≤ b0) (hb' : b0 ≤ 1000000) (hl : l ≤ c) (hc : c ≤ 2000) : Calls Yba.prog 8 #[.int .i64 b0, .int .i64 l, .int .i64 c] w (Procs w l c) := by
  have hm1 := run_make_procs l c hl hc
  have hm2 := run_make_procs l l (Nat.le_refl _) (by omega)
  go_enter Yba.func8, Yba.ntmps8
  go_wp2
  go_loopw [10] (fun si wr => ∃ (i : Nat) (A : Nat → Addr), i ≤ l ∧ si = .int .i64 i ∧ wr.rowIs w.heap.size 58 c (pf i A) ∧ wr.rowIs (w.heap.size + 1) 58 l (pf i A) ∧ Below w.heap.size w wr) (fun si _ => l - (intOf si).toNat)
  case atStart =>
    refine ⟨0, fun _ => ⟨0, 0, none⟩, Nat.zero_le _, rfl, (pf_start w c _).alloc _, ?_, ((Below.refl _ _).alloc (Nat.le_refl _) _).alloc (by simp) _⟩
    have h := pf_start (w.alloc (Prow c)) l (fun _ => ⟨0, 0, none⟩)
    simpa using h
  case round =>
    obtain ⟨i, A, hi, rfl, hr1, hr2, hbel⟩ := hrel
    clear hm1 hm2
    have hz1 := hr1.lt
    have hz2 := hr2.lt
    by_cases hlt : i < l
    · have c1 := hr1.cell (i := i) (by omega)
      have c2 := hr2.cell (i := i) (by omega)
      have f1 := hr1.frozen i
      have f2 := hr2.frozen i
      have H1 := hid hr1
      have H2 := hid hr2
      clear hr1 hr2
      go_wp2
      go_roundw
      case rel =>
        refine ⟨i + 1, _, by omega, by go_num, ((pf_step (a := ⟨wr.heap.size, 0, none⟩) H1.out).setOther (by show w.heap.size ≠ w.heap.size + 1; omega) _).alloc _, ?_, (((hbel.setCell (p := ⟨w.heap.size, i, none⟩) (Nat.le_refl _) _).setCell (p := ⟨w.heap.size + 1, i, none⟩) (by show w.heap.size ≤ w.heap.size + 1; omega) _)).alloc (by simp; omega) _⟩
        exact (pf_step (a := ⟨wr.heap.size, 0, none⟩) (H2.out.setOther (by show w.heap.size + 1 ≠ w.heap.size; omega) _)).alloc _
      case measure => simp [intOf]; omega
    · obtain rfl : i = l := by omega
      go_wp2
      go_ret2
      exact ⟨A, rfl, own_row hr1 (by omega), own_row hr2 (by omega), hbel, hz2⟩
end Go.Proofs.Ybulkdejs
