/-
  THE WALK of 'within' (function 9).
-/
import Derived.Test.YbulkdehoAddFen
import Derived.Test.YbulkdehoBuild
namespace Go.Proofs.Ybulkdeho
open Go.RowKit Go.Proofs.Ybulkdeho.Plain Go.Deep
set_option linter.unusedVariables false

theorem sm_past {M : Nat → Int} {f : Nat} (h : ∀ i, f ≤ i → M i = 0) : ∀ d, sm M (f + d) = sm M f := by
  intro d
  induction d with
  | zero => rfl
  | succ d ih =>
    have : sm M (f + (d + 1)) = sm M (f + d) + M (f + d) := rfl
    rw [this, ih, h _ (by omega)]; omega

theorem sm_past' {sz : Nat} {M : Nat → Int} {adds top : Int} (hb : Book sz M adds top) {f l : Nat} (hf : f ≤ l) (ht : top < f) : sm M (l + 1) - sm M f = 0 := by
  have := sm_past (M := M) (f := f) (fun i hi => hb.past i (by omega)) (l + 1 - f)
  rw [show f + (l + 1 - f) = l + 1 from by omega] at this
  omega

/-- Behind the first call of 'below'. -/
theorem within_tail {bc bt sz f l : Nat} {M : Nat → Int} {adds top : Int} {w : World} (hs : sz ≤ 300) (hf : f ≤ l) (hl : l < sz) (ha : adds ≤ 1024) (hinv : Inv w bc bt sz M true adds top) :
    (Calls Yba.prog 14 #[.pointer (some ⟨bc, 0, none⟩), .int .i64 ((l : Int) + 1)] w fun e w' => e = .returned (.int .i64 (sm M (l + 1))) ∧ w' = w) ∧
    (Calls Yba.prog 14 #[.pointer (some ⟨bc, 0, none⟩), .int .i64 (f : Int)] w fun e w' => e = .returned (.int .i64 (sm M f)) ∧ w' = w) := by
  have h := below_any bc bt sz (l + 1) M adds top w hs (by omega) ha hinv
  rw [show ((l + 1 : Nat) : Int) = (l : Int) + 1 from by omega] at h
  exact ⟨h, below_any bc bt sz f M adds top w hs (by omega) ha hinv⟩

/-- The loop that turns the tally into a tree: what holds at its head. -/
structure TurnAt (w : World) (bc bt sz i : Nat) (M A : Nat → Int) (adds top : Int) (wr : World) : Prop where
  lo : 0 < i
  hi : i ≤ sz + 1
  built : Built M sz i A
  tree : wr.rowIs bt 3 (sz + 1) (fun k => .int .i64 (A k))
  head : wr.rowIs bc 26 4 (ctr bt sz false adds top)
  tch : Touch bc bt w wr

theorem turn_up {w wr : World} {bc bt sz i : Nat} {M A : Nat → Int} {adds top : Int} (h : TurnAt w bc bt sz i M A adds top wr) (hs : sz ≤ 300) (hne : bc ≠ bt) (hu : i + lb i ≤ sz) :
    TurnAt w bc bt sz (i + 1) M (fun k => if k = i + lb i then A (i + lb i) + A i else A k) adds top ((wr.setCell ⟨bt, i + lb i, none⟩ (.int .i64 (A (i + lb i) + A i))).drew) := by
  have hl := lb_pos h.lo (show i < 512 by omega)
  refine ⟨by omega, by omega, built_up h.built h.lo (by omega) hu, (h.tree.set (i + lb i) _).drew.congr fun k hk => ?_, (h.head.setOther hne _).drew, (h.tch.setCell (a := ⟨bt, i + lb i, none⟩) (.inr rfl) _).drewN 1⟩
  show (if k = i + lb i then _ else _) = Value.int .i64 (if k = i + lb i then _ else _)
  split <;> rfl

theorem turn_same {w wr : World} {bc bt sz i : Nat} {M A : Nat → Int} {adds top : Int} (h : TurnAt w bc bt sz i M A adds top wr) (hs : sz ≤ 300) (hi : i ≤ sz) (hu : sz < i + lb i) : TurnAt w bc bt sz (i + 1) M A adds top wr :=
  ⟨by omega, by omega, built_same h.built h.lo hi (by omega) hu, h.tree, h.head, h.tch⟩

theorem turn_end {w wr : World} {bc bt sz i : Nat} {M A : Nat → Int} {adds top : Int} (h : TurnAt w bc bt sz i M A adds top wr) (hne : bc ≠ bt) (hb : Book sz M adds top) (hi : ¬ i < sz + 1) :
    Inv (wr.setCell ⟨bc, 1, none⟩ (.bool true)) bc bt sz M true adds top := by
  have hi' := h.hi
  obtain rfl : i = sz + 1 := by omega
  refine ⟨(h.tree.setOther (Ne.symm hne) _).congr fun k hk => by rw [built_end h.built (by omega)], (h.head.set 1 _).congr fun i hi => ?_, hne, hb⟩
  match i, hi with
  | 0, _ => rfl
  | 1, _ => rfl
  | 2, _ => rfl
  | 3, _ => rfl

set_option maxHeartbeats 1600000 in
set_option maxRecDepth 100000 in
theorem within_any (bc bt sz f l : Nat) (M : Nat → Int) (fw : Bool) (adds top : Int) (w : World) (hs : sz ≤ 300) (hf : f ≤ l) (hl : l < sz) (ha : adds ≤ 1024) (hinv : Inv w bc bt sz M fw adds top) :
    Calls Yba.prog 9 #[.pointer (some ⟨bc, 0, none⟩), .int .i64 f, .int .i64 l] w fun e w' => e = .returned (.int .i64 (sm M (l + 1) - sm M f)) ∧ (∃ fw', Inv w' bc bt sz M fw' adds top) ∧ Touch bc bt w w' := by
  have hne := hinv.ne
  have c0 : w.cell? ⟨bc, 0, none⟩ = some (.slice (some ⟨bt, 0, none⟩) (sz + 1) (sz + 1)) := hinv.head.cell (i := 0) (by omega)
  have c1 : w.cell? ⟨bc, 1, none⟩ = some (.bool fw) := hinv.head.cell (i := 1) (by omega)
  have c3 : w.cell? ⟨bc, 3, none⟩ = some (.int .i64 top) := hinv.head.cell (i := 3) (by omega)
  have s1 := hinv.book.le (i := l + 1) (by omega)
  have s2 := sm_nn hinv.book.nn f
  have s3 := sm_le hinv.book.nn (show f ≤ l + 1 by omega)
  have HI := hidc hinv
  clear hinv
  by_cases hlt : top < f
  · go_enter Yba.func9, Yba.ntmps9
    go_wp2
    go_ret
    exact ⟨ret_i (sm_past' HI.out.book hf hlt).symm, ⟨fw, HI.out⟩, Touch.refl _ _ _⟩
  cases fw
  case true =>
    obtain ⟨HC1, HC2⟩ := within_tail hs hf hl ha HI.out
    have H1 := hidc HC1
    have H2 := hidc HC2
    clear HC1 HC2
    go_enter Yba.func9, Yba.ntmps9
    go_wp2_with fail
    refine H1.out.mono ?_
    rintro e w' ⟨rfl, rfl⟩
    go_wp2_with fail
    refine H2.out.mono ?_
    rintro e w' ⟨rfl, rfl⟩
    go_wp2_with fail
    go_ret
    exact ⟨rfl, ⟨true, HI.out⟩, Touch.refl _ _ _⟩
  case false =>
    go_enter Yba.func9, Yba.ntmps9
    go_wp2_with fail
    go_loopw [7] (fun si wr => ∃ (i : Nat) (A : Nat → Int), si = .int .i64 i ∧ TurnAt w bc bt sz i M A adds top wr) (fun si _ => sz + 1 - (intOf si).toNat)
    case atStart => exact ⟨1, tr false M, rfl, by omega, by omega, built_start M sz (by omega), HI.out.tree, HI.out.head, Touch.refl _ _ _⟩
    case round =>
      obtain ⟨i, A, rfl, hat⟩ := hrel
      have q0 : wr.cell? ⟨bc, 0, none⟩ = some (.slice (some ⟨bt, 0, none⟩) (sz + 1) (sz + 1)) := hat.head.cell (i := 0) (by omega)
      have q1 : wr.cell? ⟨bc, 1, none⟩ = some (.bool false) := hat.head.cell (i := 1) (by omega)
      have qf := hat.head.frozen 1
      have lo := hat.lo
      have hi6 := hat.hi
      have HA := hidc hat
      clear c0 c1 c3 hat
      by_cases hil : i < sz + 1
      · have hb := and_lb (i := i) (by omega)
        have hlb := lb_pos (n := i) (by omega) (by omega)
        by_cases hup : i + lb i < sz + 1
        · have g0 := HA.out.tree.cell (i := i) (by omega)
          have g1 := HA.out.tree.cell (i := i + lb i) (by omega)
          have gf := HA.out.tree.frozen (i + lb i)
          have gb0 := built_bounds HI.out.book HA.out.built (k := i) (by omega) (by omega)
          have gb1 := built_bounds HI.out.book HA.out.built (k := i + lb i) (by omega) (by omega)
          have hup1 : (i : Int) + (lb i : Int) < (sz : Int) + 1 := by omega
          have hil1 : (i : Int) < (sz : Int) + 1 := by omega
          go_wp2_with fail
          go_region
          all_goals go_wp2_with fail
          go_roundw
          case rel => exact ⟨i + 1, _, by go_num, turn_up HA.out hs hne (by omega)⟩
          case measure => simp [intOf]; omega
        · go_wp2_with fail
          go_roundw
          case rel => exact ⟨i + 1, A, by go_num, turn_same HA.out hs (by omega) (by omega)⟩
          case measure => simp [intOf]; omega
      · have hinv := turn_end HA.out hne HI.out.book hil
        obtain ⟨HC1, HC2⟩ := within_tail hs hf hl ha hinv
        have H1 := hidc HC1
        have H2 := hidc HC2
        have H3 := hidc hinv
        clear HC1 HC2 hinv
        go_wp2_with fail
        refine H1.out.mono ?_
        rintro e w' ⟨rfl, rfl⟩
        go_wp2_with fail
        refine H2.out.mono ?_
        rintro e w' ⟨rfl, rfl⟩
        go_wp2_with fail
        go_ret
        exact ⟨rfl, ⟨true, H3.out⟩, HA.out.tch.setCell (a := ⟨bc, 1, none⟩) (.inl rfl) _⟩
end Go.Proofs.Ybulkdeho
