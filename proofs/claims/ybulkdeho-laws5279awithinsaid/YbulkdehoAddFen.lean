/-
  THE WALK of 'add' (function 8) where the counter is a Fenwick tree.
-/
import Derived.Test.YbulkdehoBelow
namespace Go.Proofs.Ybulkdeho
open Go.RowKit Go.Proofs.Ybulkdeho.Plain Go.Deep
set_option linter.unusedVariables false

theorem head_add {w : World} {bc bt sz : Nat} {fw : Bool} {adds top top' : Int} (h : w.rowIs bc 26 4 (ctr bt sz fw adds top)) :
    ((w.setCell ⟨bc, 2, none⟩ (.int .i64 (adds + 1))).setCell ⟨bc, 3, none⟩ (.int .i64 top')).rowIs bc 26 4 (ctr bt sz fw (adds + 1) top') := by
  refine ((h.set 2 _).set 3 _).congr fun i hi => ?_
  match i, hi with
  | 0, _ => rfl
  | 1, _ => rfl
  | 2, _ => rfl
  | 3, _ => rfl

/-- The loop of 'add': what holds at its head. -/
structure AddAt (w : World) (bc bt sz p i : Nat) (M : Nat → Int) (adds top : Int) (wr : World) : Prop where
  lo : p < i
  hi : i ≤ 600
  cov : i ≤ sz → i - lb i ≤ p
  tree : wr.rowIs bt 3 (sz + 1) (fun k => .int .i64 (half M p i k))
  head : wr.rowIs bc 26 4 (ctr bt sz true (adds + 1) (topOf top p))
  tch : Touch bc bt w wr

theorem addAt_start {w : World} {bc bt sz p : Nat} {M : Nat → Int} {adds top top' : Int} (h : Inv w bc bt sz M true adds top) (hp : p < sz) (hs : sz ≤ 300) (ht : topOf top p = top') :
    AddAt w bc bt sz p (p + 1) M adds top ((w.setCell ⟨bc, 2, none⟩ (.int .i64 (adds + 1))).setCell ⟨bc, 3, none⟩ (.int .i64 top')) := by
  subst ht
  have hl := lb_pos (n := p + 1) (by omega) (by omega)
  refine ⟨by omega, by omega, fun _ => by omega, ?_, head_add h.head, ((Touch.refl bc bt w).setCell (a := ⟨bc, 2, none⟩) (.inl rfl) _).setCell (a := ⟨bc, 3, none⟩) (.inl rfl) _⟩
  refine ((h.tree.setOther (Ne.symm h.ne) _).setOther (Ne.symm h.ne) _).congr fun k hk => ?_
  rw [half_start]

theorem addAt_step {w wr : World} {bc bt sz p i : Nat} {M : Nat → Int} {adds top : Int} (h : AddAt w bc bt sz p i M adds top wr) (hne : bc ≠ bt) (hs : sz ≤ 300) (hi : i ≤ sz) :
    AddAt w bc bt sz p (i + lb i) M adds top (wr.setCell ⟨bt, i, none⟩ (.int .i64 (half M p i i + 1))) := by
  have lo := h.lo
  have hl := lb_pos (n := i) (by omega) (by omega)
  refine ⟨by omega, by omega, fun hz => ?_, ?_, h.head.setOther hne _, h.tch.setCell (a := ⟨bt, i, none⟩) (.inr rfl) _⟩
  · have := lb_up (i := i) (by omega) (by omega)
    have := h.cov hi
    omega
  · refine (h.tree.set i _).congr fun k hk => ?_
    rw [← half_step lo (h.cov hi) (by omega)]
    split <;> rfl

theorem addAt_end {w wr : World} {bc bt sz p i : Nat} {M : Nat → Int} {adds top : Int} (h : AddAt w bc bt sz p i M adds top wr) (hne : bc ≠ bt) (hb : Book sz M adds top) (hp : p < sz) (hi : sz < i) :
    Inv wr bc bt sz (addTo M p) true (adds + 1) (topOf top p) :=
  ⟨h.tree.congr fun k hk => by rw [half_end (by omega)], h.head, hne, hb.add hp⟩

set_option maxHeartbeats 800000 in
set_option maxRecDepth 100000 in
theorem add_fen (bc bt sz p : Nat) (M : Nat → Int) (adds top : Int) (w : World) (hs : sz ≤ 300) (hp : p < sz) (ha : adds ≤ 1024) (hinv : Inv w bc bt sz M true adds top) :
    Calls Yba.prog 8 #[.pointer (some ⟨bc, 0, none⟩), .int .i64 p] w fun e w' => e = .returned (.tuple #[]) ∧ Inv w' bc bt sz (addTo M p) true (adds + 1) (topOf top p) ∧ Touch bc bt w w' := by
  have hne := hinv.ne
  have c0 : w.cell? ⟨bc, 0, none⟩ = some (.slice (some ⟨bt, 0, none⟩) (sz + 1) (sz + 1)) := hinv.head.cell (i := 0) (by omega)
  have c1 : w.cell? ⟨bc, 1, none⟩ = some (.bool true) := hinv.head.cell (i := 1) (by omega)
  have c2 : w.cell? ⟨bc, 2, none⟩ = some (.int .i64 adds) := hinv.head.cell (i := 2) (by omega)
  have c3 : w.cell? ⟨bc, 3, none⟩ = some (.int .i64 top) := hinv.head.cell (i := 3) (by omega)
  have f2 := hinv.head.frozen 2
  have f3 := hinv.head.frozen 3
  have b1 := (hinv.book.le (Nat.zero_le sz))
  have z0 : 0 ≤ adds := by simpa [sm] using b1
  have HI := hidc hinv
  clear b1 hinv
  obtain ⟨t', ht⟩ : ∃ t', topOf top p = t' := ⟨_, rfl⟩
  have HT := hidc ht
  have hmax : Hid (t' = if top < p then (p : Int) else top) := ht.symm
  clear ht
  by_cases hlt : top < p
  · obtain rfl : t' = (p : Int) := by rw [hmax.out, if_pos hlt]
    go_enter Yba.func8, Yba.ntmps8
    go_wp2
    go_loopw [4] (fun si wr => ∃ i : Nat, si = .int .i64 i ∧ AddAt w bc bt sz p i M adds top wr) (fun si _ => sz + 1 - (intOf si).toNat)
    case atStart => exact ⟨p + 1, by go_num, addAt_start HI.out hp hs HT.out⟩
    case round =>
      obtain ⟨i, rfl, hat⟩ := hrel
      have q0 : wr.cell? ⟨bc, 0, none⟩ = some (.slice (some ⟨bt, 0, none⟩) (sz + 1) (sz + 1)) := hat.head.cell (i := 0) (by omega)
      have hi6 := hat.hi
      have HA := hidc hat
      clear c0 c1 c2 c3 f2 f3 hat
      by_cases hil : i < sz + 1
      · have g0 := HA.out.tree.cell (i := i) (by omega)
        have gf := HA.out.tree.frozen i
        have hb := and_lb (i := i) (by omega)
        have lo := HA.out.lo
        have hl := lb_pos (n := i) (by omega) (by omega)
        have gb := half_bounds HI.out.book hp (i := i) (k := i) (by omega)
        go_wp2
        go_roundw
        case rel => exact ⟨i + lb i, by go_num, addAt_step HA.out hne hs (by omega)⟩
        case measure => simp [intOf]; omega
      · go_wp2
        go_end0
        exact ⟨rfl, addAt_end HA.out hne HI.out.book hp (by omega), HA.out.tch⟩
  · obtain rfl : top = t' := by rw [hmax.out, if_neg hlt]
    go_enter Yba.func8, Yba.ntmps8
    go_wp2
    go_loopw [4] (fun si wr => ∃ i : Nat, si = .int .i64 i ∧ AddAt w bc bt sz p i M adds top wr) (fun si _ => sz + 1 - (intOf si).toNat)
    case atStart => exact ⟨p + 1, by go_num, addAt_start HI.out hp hs HT.out⟩
    case round =>
      obtain ⟨i, rfl, hat⟩ := hrel
      have q0 : wr.cell? ⟨bc, 0, none⟩ = some (.slice (some ⟨bt, 0, none⟩) (sz + 1) (sz + 1)) := hat.head.cell (i := 0) (by omega)
      have hi6 := hat.hi
      have HA := hidc hat
      clear c0 c1 c2 c3 f2 f3 hat
      by_cases hil : i < sz + 1
      · have g0 := HA.out.tree.cell (i := i) (by omega)
        have gf := HA.out.tree.frozen i
        have hb := and_lb (i := i) (by omega)
        have lo := HA.out.lo
        have hl := lb_pos (n := i) (by omega) (by omega)
        have gb := half_bounds HI.out.book hp (i := i) (k := i) (by omega)
        go_wp2
        go_roundw
        case rel => exact ⟨i + lb i, by go_num, addAt_step HA.out hne hs (by omega)⟩
        case measure => simp [intOf]; omega
      · go_wp2
        go_end0
        exact ⟨rfl, addAt_end HA.out hne HI.out.book hp (by omega), HA.out.tch⟩

theorem add_any (bc bt sz p : Nat) (M : Nat → Int) (fw : Bool) (adds top : Int) (w : World) (hs : sz ≤ 300) (hp : p < sz) (ha : adds ≤ 1024) (hinv : Inv w bc bt sz M fw adds top) :
    Calls Yba.prog 8 #[.pointer (some ⟨bc, 0, none⟩), .int .i64 p] w fun e w' => e = .returned (.tuple #[]) ∧ Inv w' bc bt sz (addTo M p) fw (adds + 1) (topOf top p) ∧ Touch bc bt w w' := by
  cases fw
  · exact add_tally bc bt sz p M adds top w hs hp ha hinv
  · exact add_fen bc bt sz p M adds top w hs hp ha hinv
end Go.Proofs.Ybulkdeho
