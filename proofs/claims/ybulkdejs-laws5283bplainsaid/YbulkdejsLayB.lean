/-
  THE START of what the B laws lay: the runner, behind 'fill'; the two tables made.
-/
import Derived.Test.YbulkdejsLay
namespace Go.Proofs.Ybulkdejs
open Go.RowKit Go.Deep
set_option linter.unusedVariables false
set_option linter.unusedSimpArgs false

theorem own_rows {w : World} {b e n size : Nat} {f : Nat → Value} (h : w.rowIs b e (n * size) f) (hn : n ≤ 4000) : Own w e size (some ⟨b, 0, none⟩) n n f := by
  obtain ⟨cur, h1, h2, h3⟩ := h
  exact .inr ⟨b, cur, rfl, h1, Nat.le_refl _, by unfold maxLen; omega, h2, fun j hj => h3 j hj⟩

/-- A new runner's cells. -/
def Rcells (re sh : Bool) : Array Value := #[.nilIface, .bool re, .bool sh, .bool false, .slice none 0 0, .slice none 0 0, .slice none 0 0, .int .i64 0, .int .i64 0, .slice none 0 0, .slice none 0 0, .slice none 0 0, .slice none 0 0, .slice none 0 0,
  .slice none 0 0, .slice none 0 0, .slice none 0 0, .slice none 0 0, .slice none 0 0, .slice none 0 0, .slice none 0 0, .slice none 0 0, .int .i64 0]
def Rfun (re sh : Bool) (i : Nat) : Value := (Rcells re sh)[i]!
theorem runner_row (w : World) (re sh : Bool) : (w.alloc (.cells (Rcells re sh) 39)).rowIs w.heap.size 39 23 (Rfun re sh) :=
  World.rowIs_alloc w (Rcells re sh) 39 (Rfun re sh) (fun i hi => by unfold Rfun; simp [hi])

/-- The owners behind 'fill'. -/
def tag0 (g : Nat) (k : Nat) : Nat := if k = g then 1 else if k = g + 4 then 3 else if k = g + 5 then 4 else if k = g + 6 then 5 else 0

theorem bs_start {w W : World} {re sh : Bool} {lo lh lr : Nat} (h1 : lo ≤ 255) (h2 : lh ≤ 255) (h3 : lr ≤ 255) (h : FS (w.alloc (.cells (Rcells re sh) 39)) w.heap.size (w.heap.size + 1) lo lh lr (R20 (Rfun re sh) (w.heap.size + 1) lo lh lr) 6 W) :
    Bs w w.heap.size (R20 (Rfun re sh) (w.heap.size + 1) lo lh lr) W (tag0 w.heap.size) := by
  obtain ⟨fo, ho⟩ := h.o (by omega)
  obtain ⟨fh, hh⟩ := h.h (by omega)
  obtain ⟨fv, hv⟩ := h.v (by omega)
  refine ⟨⟨h.run.os, h.run.tape, h.run.output, by have := h.size; omega, fun k hk => (h.run.block k (by simp; omega) (by omega)).trans (blk_alloc_lt _ _ _ hk)⟩, fun b hb => ?_, h.run.row, ?_, ?_, ?_, ?_, ?_⟩
  · unfold tag0; rw [if_neg (by omega), if_neg (by omega), if_neg (by omega), if_neg (by omega)]
  · unfold tag0; rw [if_pos rfl]
  · refine ⟨_, _, _, fo, rfl, own_rows ho (by omega), fun a ha => ?_⟩
    obtain rfl := Option.some.inj ha
    unfold tag0; rw [if_neg (by dsimp only; omega), if_pos (by dsimp only)]
  · refine ⟨_, _, _, fh, rfl, own_row hh (by omega), fun a ha => ?_⟩
    obtain rfl := Option.some.inj ha
    unfold tag0; rw [if_neg (by dsimp only; omega), if_neg (by dsimp only; omega), if_pos (by dsimp only)]
  · refine ⟨_, _, _, fv, rfl, own_row hv (by omega), fun a ha => ?_⟩
    obtain rfl := Option.some.inj ha
    unfold tag0; rw [if_neg (by dsimp only; omega), if_neg (by dsimp only; omega), if_neg (by dsimp only; omega), if_pos (by dsimp only)]
  · refine ⟨⟨_, rfl, h.i, ?_⟩, ⟨_, rfl, h.nums.p, ?_⟩, ⟨_, rfl, h.nums.m, ?_⟩, rfl⟩
    · unfold tag0; rw [if_neg (by omega), if_neg (by omega), if_neg (by omega), if_neg (by omega)]
    · unfold tag0; rw [if_neg (by omega), if_neg (by omega), if_neg (by omega), if_neg (by omega)]
    · unfold tag0; rw [if_neg (by omega), if_neg (by omega), if_neg (by omega), if_neg (by omega)]

theorem Bs.set19 {w W : World} {br : Nat} {R : Nat → Value} {tag : Nat → Nat} (h : Bs w br R W tag) (hb : w.heap.size ≤ br) (v : Value) : Bs w br (upd R 19 v) (W.setCell ⟨br, 19, none⟩ v) tag := by
  have s : Step (fun t => t = 1) W tag (W.setCell ⟨br, 19, none⟩ v) tag := Step.setCell _ h.tbr
  have f := h.fil.step s (by decide)
  exact ⟨h.bel.setCell (p := ⟨br, 19, none⟩) hb v, h.old, h.row.set 19 v, h.tbr, h.o.step s (by decide), h.h.step s (by decide), h.v.step s (by decide), ⟨f.i, f.p, f.m, f.e⟩⟩

theorem Yba.info41 : (Yba.prog.info? 41).map (fun i => (i.zero, i.size, i.bytes)) = some (some (.slice none 0 0), 1, 24) := by kernel_rfl
def Rrw (n : Nat) : Obj := .cells (madeCells #[.slice none 0 0] n) 41
def Trw (n : Nat) : Obj := .cells (madeCells #[.slice none 0 0, .slice none 0 0, .slice none 0 0, .slice none 0 0, .slice none 0 0, .slice none 0 0] (n * 6)) 50
theorem make_recs (n : Nat) (hn : n ≤ 300) (w : World) : (Instr.makeSlice 61 (.int .i64 (n : Int)) (.int .i64 (n : Int))).run Yba.prog w = .ok (.slice (some ⟨w.heap.size, 0, none⟩) n n) (w.alloc (Rrw n)) :=
  run_make_row' (P := Yba.prog) 61 41 (.slice none 0 0) 24 Yba.underlying61 Yba.info41 rfl .i64 .i64 n (by omega) (by omega) w
theorem make_times (n : Nat) (hn : n ≤ 300) (w : World) : (Instr.makeSlice 36 (.int .i64 (n : Int)) (.int .i64 (n : Int))).run Yba.prog w = .ok (.slice (some ⟨w.heap.size, 0, none⟩) n n) (w.alloc (Trw n)) := by
  obtain ⟨i, hi, hz0, hz1, hz2⟩ := info_parts Yba.info50
  have hr := run_make (P := Yba.prog) w 36 50 i _ Yba.underlying36 hi hz0 .i64 .i64 (n : Int) (n : Int) (by omega) (by omega) (by rw [hz2]; omega) (by omega)
  simp only [Int.toNat_natCast, hz1] at hr
  exact hr

/-- No entry yet; with the times' table. -/
theorem bi_zero {w W : World} {br k rb : Nat} {R RF : Nat → Value} {tag : Nat → Nat} {l : Nat → Nat} {A : Nat → Nat → Addr} (h : Bs w br R W tag) (hr : W.rowIs rb 41 k RF) (ht : tag rb = 1000) (hb : w.heap.size ≤ br) (hne : rb ≠ br) (hk : k ≤ 300) :
    ∃ tag' TF, Bi w br (upd R 19 (.slice (some ⟨W.heap.size, 0, none⟩) k k)) rb k (some ⟨W.heap.size, 0, none⟩) l 0 ((W.setCell ⟨br, 19, none⟩ (.slice (some ⟨W.heap.size, 0, none⟩) k k)).alloc (Trw k)) tag' TF RF A := by
  have b := h.set19 hb (.slice (some ⟨W.heap.size, 0, none⟩) k k)
  have s : Step (fun _ => False) (W.setCell ⟨br, 19, none⟩ (.slice (some ⟨W.heap.size, 0, none⟩) k k)) tag _ _ := Step.alloc (Trw k) 2
  have e1 : (W.setCell ⟨br, 19, none⟩ (.slice (some ⟨W.heap.size, 0, none⟩) k k)).heap.size = W.heap.size := by simp
  obtain ⟨f, hf⟩ := made_row (W.setCell ⟨br, 19, none⟩ (.slice (some ⟨W.heap.size, 0, none⟩) k k)) #[.slice none 0 0, .slice none 0 0, .slice none 0 0, .slice none 0 0, .slice none 0 0, .slice none 0 0] (k * 6) 50 (by simp)
  rw [e1] at hf
  refine ⟨_, f, b.step s (fun _ _ _ h => h), (hr.setOther hne _).alloc _, s.tagOf (hr.setOther hne _).lt ht, own_rows hf (by omega), fun a ha => ?_, fun j hj => by omega, fun j hj => by omega, fun j hj => by omega⟩
  obtain rfl := Option.some.inj ha
  rw [e1]
  exact tg_new (Nat.le_refl _)

/-- No entry, no times' table. -/
theorem bi_none {w W : World} {br rb : Nat} {R RF : Nat → Value} {tag : Nat → Nat} {l : Nat → Nat} {A : Nat → Nat → Addr} (h : Bs w br R W tag) (hr : W.rowIs rb 41 0 RF) (ht : tag rb = 1000) :
    Bi w br R rb 0 none l 0 W tag (fun _ => .nilIface) RF A :=
  ⟨h, hr, ht, .inl ⟨rfl, rfl, rfl⟩, (fun a ha => by cases ha), fun j hj => by omega, fun j hj => by omega, fun j hj => by omega⟩

/-- The table of records made. -/
theorem bs_recs {w W : World} {br : Nat} {R : Nat → Value} {tag : Nat → Nat} (h : Bs w br R W tag) (k : Nat) :
    Bs w br R (W.alloc (Rrw k)) (tg tag W.heap.size 1000) ∧ (∃ RF, (W.alloc (Rrw k)).rowIs W.heap.size 41 k RF) ∧ tg tag W.heap.size 1000 W.heap.size = 1000 :=
  ⟨h.step (Step.alloc (S := fun _ => False) (Rrw k) 1000) (fun _ _ _ h => h), made_row W #[.slice none 0 0] k 41 (by simp), tg_new (Nat.le_refl _)⟩
end Go.Proofs.Ybulkdejs
