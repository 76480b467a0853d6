/-
  THE COUNTER IN MEMORY ('placeCounter'), and the walk of 'add' (function 8) while it tallies.
-/
import Derived.Test.YbulkdehoRows
import Derived.Test.YbulkdehoFen
import Derived.WalkKit
import Derived.ProofKit
import Derived.Below
import Derived.WalkSmall
import Derived.BigQuiet
import Derived.Deep.QuietTactic
import Derived.Deep.OwnRows
import Derived.RegionTactic
namespace Go.Proofs.Ybulkdeho
open Go.RowKit Go.Proofs.Ybulkdeho.Plain Go.Deep
set_option linter.unusedVariables false

theorem hidc {p : Prop} (h : p) : Hid p := h

/-- Only the blocks b1 and b2 have turned. -/
structure Touch (b1 b2 : Nat) (w w' : World) : Prop where
  os : w'.os = w.os
  tape : w'.tape = w.tape
  output : w'.output = w.output
  size : w'.heap.size = w.heap.size
  block : ∀ k, k ≠ b1 → k ≠ b2 → w'.heap[k]? = w.heap[k]?

namespace Touch
variable {b1 b2 : Nat} {w w' w'' : World}
theorem refl (b1 b2 : Nat) (w : World) : Touch b1 b2 w w := ⟨rfl, rfl, rfl, rfl, fun _ _ _ => rfl⟩
theorem trans (h : Touch b1 b2 w w') (k : Touch b1 b2 w' w'') : Touch b1 b2 w w'' :=
  ⟨k.os.trans h.os, k.tape.trans h.tape, k.output.trans h.output, k.size.trans h.size, fun i h1 h2 => (k.block i h1 h2).trans (h.block i h1 h2)⟩
theorem setCell (h : Touch b1 b2 w w') {a : Addr} (ha : a.block = b1 ∨ a.block = b2) (v : Value) : Touch b1 b2 w (w'.setCell a v) :=
  h.trans ⟨rfl, rfl, rfl, by simp [World.setCell], fun k h1 h2 => Below.heap_setCell _ _ _ _ (by rcases ha with h | h <;> omega)⟩
theorem drewN (h : Touch b1 b2 w w') (n : Nat) : Touch b1 b2 w (w'.drewN n) := h.trans ⟨rfl, rfl, rfl, rfl, fun _ _ _ => rfl⟩
theorem below (h : Touch b1 b2 w w') {B : Nat} (h1 : B ≤ b1) (h2 : B ≤ b2) : Below B w w' :=
  ⟨h.os, h.tape, h.output, Nat.le_of_eq h.size.symm, fun k hk => h.block k (by omega) (by omega)⟩
theorem row (h : Touch b1 b2 w w') {b t n : Nat} {f : Nat → Value} (hr : w.rowIs b t n f) (h1 : b ≠ b1) (h2 : b ≠ b2) : w'.rowIs b t n f := hr.of_block (h.block b h1 h2)
end Touch

/-- The counter's four cells. -/
def ctr (bt sz : Nat) (fw : Bool) (adds top : Int) : Nat → Value
  | 0 => .slice (some ⟨bt, 0, none⟩) (sz + 1) (sz + 1)
  | 1 => .bool fw
  | 2 => .int .i64 adds
  | _ => .int .i64 top

/-- THE COUNTER IN MEMORY: block bc holds its fields, block bt its array. -/
structure Inv (w : World) (bc bt sz : Nat) (M : Nat → Int) (fw : Bool) (adds top : Int) : Prop where
  tree : w.rowIs bt 3 (sz + 1) (fun i => .int .i64 (tr fw M i))
  head : w.rowIs bc 26 4 (ctr bt sz fw adds top)
  ne : bc ≠ bt
  book : Book sz M adds top

theorem Inv.other {w w' : World} {bc bt sz : Nat} {M : Nat → Int} {fw : Bool} {adds top : Int} (h : Inv w bc bt sz M fw adds top) (e1 : w'.heap[bc]? = w.heap[bc]?) (e2 : w'.heap[bt]? = w.heap[bt]?) : Inv w' bc bt sz M fw adds top :=
  ⟨h.tree.of_block e2, h.head.of_block e1, h.ne, h.book⟩

theorem inv_tally {w : World} {bc bt sz p : Nat} {M : Nat → Int} {adds top top' : Int} (h : Inv w bc bt sz M false adds top) (hp : p < sz) (ht : topOf top p = top') :
    Inv (((w.setCell ⟨bc, 2, none⟩ (.int .i64 (adds + 1))).setCell ⟨bc, 3, none⟩ (.int .i64 top')).setCell ⟨bt, p + 1, none⟩ (.int .i64 (tr false M (p + 1) + 1))) bc bt sz (addTo M p) false (adds + 1) (topOf top p) := by
  have hne := h.ne
  subst ht
  refine ⟨?_, ?_, hne, h.book.add hp⟩
  · refine (((h.tree.setOther (Ne.symm hne) _).setOther (Ne.symm hne) _).set (p + 1) _).congr fun i hi => ?_
    rw [tr_tally_add]
    split <;> rfl
  · refine (((h.head.set 2 _).set 3 _).setOther hne _).congr fun i hi => ?_
    match i, hi with
    | 0, _ => rfl
    | 1, _ => rfl
    | 2, _ => rfl
    | 3, _ => rfl

set_option maxHeartbeats 800000 in
set_option maxRecDepth 100000 in
theorem add_tally (bc bt sz p : Nat) (M : Nat → Int) (adds top : Int) (w : World) (hs : sz ≤ 300) (hp : p < sz) (ha : adds ≤ 1024) (hinv : Inv w bc bt sz M false adds top) :
    Calls Yba.prog 8 #[.pointer (some ⟨bc, 0, none⟩), .int .i64 p] w fun e w' => e = .returned (.tuple #[]) ∧ Inv w' bc bt sz (addTo M p) false (adds + 1) (topOf top p) ∧ Touch bc bt w w' := by
  have hne := hinv.ne
  have c0 : w.cell? ⟨bc, 0, none⟩ = some (.slice (some ⟨bt, 0, none⟩) (sz + 1) (sz + 1)) := hinv.head.cell (i := 0) (by omega)
  have c1 : w.cell? ⟨bc, 1, none⟩ = some (.bool false) := hinv.head.cell (i := 1) (by omega)
  have c2 : w.cell? ⟨bc, 2, none⟩ = some (.int .i64 adds) := hinv.head.cell (i := 2) (by omega)
  have c3 : w.cell? ⟨bc, 3, none⟩ = some (.int .i64 top) := hinv.head.cell (i := 3) (by omega)
  have f2 := hinv.head.frozen 2
  have f3 := hinv.head.frozen 3
  have t0 := hinv.tree.cell (i := p + 1) (by omega)
  have ft := hinv.tree.frozen (p + 1)
  have b0 := hinv.book.tr false (i := p + 1) (by omega)
  have b1 := (hinv.book.le (Nat.zero_le sz))
  have z0 : 0 ≤ adds := by simpa [sm] using b1
  have HI := hidc hinv
  clear b1 hinv
  obtain ⟨T, hT⟩ : ∃ T, T = tr false M (p + 1) := ⟨_, rfl⟩
  rw [← hT] at t0 b0
  have HT := hidc hT
  clear hT
  by_cases hlt : top < p
  · have H1 := hidc (show topOf top p = (p : Int) from if_pos hlt)
    go_enter Yba.func8, Yba.ntmps8
    go_wp2
    refine bodyPost_ret (results_none rfl _ _ _) rfl ?_
    have hi := inv_tally HI.out hp H1.out
    rw [← HT.out] at hi
    refine ⟨rfl, hi, ?_⟩
    exact (((Touch.refl bc bt w).setCell (a := ⟨bc, 2, none⟩) (.inl rfl) _).setCell (a := ⟨bc, 3, none⟩) (.inl rfl) _).setCell (a := ⟨bt, p + 1, none⟩) (.inr rfl) _
  · have H1 := hidc (show topOf top p = top from if_neg hlt)
    go_enter Yba.func8, Yba.ntmps8
    go_wp2
    refine bodyPost_ret (results_none rfl _ _ _) rfl ?_
    have hi := inv_tally HI.out hp H1.out
    rw [← HT.out] at hi
    refine ⟨rfl, hi, ?_⟩
    exact (((Touch.refl bc bt w).setCell (a := ⟨bc, 2, none⟩) (.inl rfl) _).setCell (a := ⟨bc, 3, none⟩) (.inl rfl) _).setCell (a := ⟨bt, p + 1, none⟩) (.inr rfl) _
end Go.Proofs.Ybulkdeho
