/-
  THE WALK of 'LawS5279BBounds' (function 6).
-/
import Derived.Test.YbulkdehoAmr
import Derived.Deep.OwnRows
import Derived.RegionTactic
namespace Go.Proofs.Ybulkdeho
open Go.RowKit Go.Proofs.Ybulkdeho.Plain
set_option linter.unusedVariables false

/-- What is known of a slice of pairs of ints that came in. -/
def Pairs (w : World) (k : IntKind) (ao : Option Addr) (len : Nat) (Z0 Z1 : Nat → Int) : Prop :=
  ∀ i, i < len → ∃ b off, ao = some ⟨b, off, none⟩ ∧ b < w.heap.size ∧ w.cell? ⟨b, off + i * 2, none⟩ = some (.int k (Z0 i)) ∧ w.cell? ⟨b, off + i * 2 + 1, none⟩ = some (.int .i64 (Z1 i))

/-- The block that 'make([]entry, n)' lays. -/
def Zrow (n : Nat) : Obj := .cells (madeCells #[.int .i64 0, .int .i64 0] (n * 2)) 46

/-- What the cells of a row of entries hold when k entries have been laid. -/
def cellF (Z0 Z1 : Nat → Int) (k c : Nat) : Value := .int .i64 (if c < k * 2 then (if c % 2 = 0 then Z0 (c / 2) else Z1 (c / 2)) else 0)

theorem Yba.info46 : (Yba.prog.info? 46).map (fun i => (i.zero, i.size, i.bytes)) = some (some (.agg #[.int .i64 0, .int .i64 0]), 2, 16) := by kernel_rfl

theorem run_make_entries (n l : Nat) (hl : l ≤ n) (hn : n ≤ 1024) (w : World) : (Instr.makeSlice 36 (.int .i64 (l : Int)) (.int .i64 (n : Int))).run Yba.prog w = .ok (.slice (some ⟨w.heap.size, 0, none⟩) l n) (w.alloc (Zrow n)) := by
  obtain ⟨i, hi, hz0, hz1, hz2⟩ := info_parts Yba.info46
  have hr := run_make (P := Yba.prog) w 36 46 i _ Yba.underlying36 hi hz0 .i64 .i64 (l : Int) (n : Int) (by omega) (by omega) (by rw [hz2]; omega) (by omega)
  simp only [Int.toNat_natCast, hz1] at hr
  exact hr

theorem rowIs_Zrow (w : World) (n : Nat) (Z0 Z1 : Nat → Int) : (w.alloc (Zrow n)).rowIs w.heap.size 46 (n * 2) (cellF Z0 Z1 0) := by
  refine ⟨_, Go.Deep.blk_alloc_new _ _, size_madeCells _ _, fun i hi => ?_⟩
  have : i % 2 = 0 ∨ i % 2 = 1 := by omega
  rcases this with h | h <;> simp [madeCells, hi, cellF, h]

/-- One entry laid. -/
theorem rowIs_entry {w : World} {b n k : Nat} {Z0 Z1 : Nat → Int} (h : w.rowIs b 46 (n * 2) (cellF Z0 Z1 k)) :
    ((w.setCell ⟨b, k * 2, none⟩ (.int .i64 (Z0 k))).setCell ⟨b, k * 2 + 1, none⟩ (.int .i64 (Z1 k))).rowIs b 46 (n * 2) (cellF Z0 Z1 (k + 1)) := by
  refine ((h.set (k * 2) _).set (k * 2 + 1) _).congr fun c hc => ?_
  unfold cellF
  by_cases h1 : c = k * 2 + 1
  · subst h1
    rw [if_pos rfl, if_pos (by omega), if_neg (by omega), show (k * 2 + 1) / 2 = k from by omega]
  · rw [if_neg h1]
    by_cases h2 : c = k * 2
    · subst h2
      rw [if_pos rfl, if_pos (by omega), if_pos (by omega), show (k * 2) / 2 = k from by omega]
    · rw [if_neg h2]
      by_cases h3 : c < k * 2
      · have h4 : c < (k + 1) * 2 := by omega
        simp [h3, h4]
      · have h4 : ¬ c < (k + 1) * 2 := by omega
        simp [h3, h4]

theorem hid {p : Prop} (h : p) : Hid p := h

theorem cellF_even {Z0 Z1 : Nat → Int} {k i : Nat} (h : i < k) : cellF Z0 Z1 k (i * 2) = .int .i64 (Z0 i) := by
  unfold cellF
  rw [if_pos (by omega), if_pos (by omega), show i * 2 / 2 = i from by omega]

theorem cellF_odd {Z0 Z1 : Nat → Int} {k i : Nat} (h : i < k) : cellF Z0 Z1 k (i * 2 + 1) = .int .i64 (Z1 i) := by
  unfold cellF
  rw [if_pos (by omega), if_neg (by omega), show (i * 2 + 1) / 2 = i from by omega]

set_option maxHeartbeats 1600000 in
set_option maxRecDepth 100000 in
theorem bounds_any (ao bo : Option Addr) (na nb ca cb : Nat) (HA CA HB CB : Nat → Int) (w : World) (hA : Pairs w .i64 ao na HA CA) (hB : Pairs w .i64 bo nb HB CB) (hna : na ≤ 9223372036854775807) (hnb : nb ≤ 9223372036854775807) :
    Calls Yba.prog 6 #[.slice ao na ca, .slice bo nb cb] w fun e w' => e = .returned (.bool true) ∧ Below w.heap.size w w' := by
  have PA : Hid (Pairs w .i64 ao na HA CA) := hA
  have PB : Hid (Pairs w .i64 bo nb HB CB) := hB
  clear hA hB
  by_cases h1 : 1024 < na
  · go_enter Yba.func6, Yba.ntmps6
    go_wp2
    go_ret
    exact ⟨rfl, Below.refl _ _⟩
  by_cases h2 : 1024 < nb
  · go_enter Yba.func6, Yba.ntmps6
    go_wp2
    go_ret
    exact ⟨rfl, Below.refl _ _⟩
  have hma := run_make_entries na na (Nat.le_refl _) (by omega)
  have hmb := run_make_entries nb nb (Nat.le_refl _) (by omega)
  go_enter Yba.func6, Yba.ntmps6
  go_wp2
  go_loopw [26] (fun s wr => ∃ k : Nat, k ≤ na ∧ s = .int .i64 k ∧ wr.rowIs w.heap.size 46 (na * 2) (cellF HA CA k) ∧ Below w.heap.size w wr) (fun s _ => na - (intOf s).toNat)
  case atStart => exact ⟨0, Nat.zero_le _, rfl, rowIs_Zrow _ _ _ _, (Below.refl _ _).alloc (Nat.le_refl _) _⟩
  case round =>
    obtain ⟨k, hk, rfl, hrow, hbel⟩ := hrel
    by_cases hlt : k < na
    · obtain ⟨b, off, rfl, hb, c0, c1⟩ := PA.out k hlt
      have hc0 : wr.cell? ⟨b, off + k * 2, none⟩ = some (.int .i64 (HA k)) := (hbel.cell (by exact hb)).trans c0
      have hc1 : wr.cell? ⟨b, off + k * 2 + 1, none⟩ = some (.int .i64 (CA k)) := (hbel.cell (by exact hb)).trans c1
      clear c0 c1
      have r0 := hrow.cell (i := k * 2) (by omega)
      have r1 := hrow.cell (i := k * 2 + 1) (by omega)
      have f0 := hrow.frozen (k * 2)
      have f1 := hrow.frozen (k * 2 + 1)
      have HR : Hid (wr.rowIs w.heap.size 46 (na * 2) (cellF HA CA k)) := hrow
      clear hrow
      go_wp2
      go_region
      all_goals go_wp2
      all_goals go_roundw
      case rel => exact ⟨k + 1, by omega, by go_num, (rowIs_entry HR.out).drew, ((hbel.setCell (Nat.le_refl _) _).setCell (Nat.le_refl _) _).drew⟩
      case measure => simp [intOf]; omega
    · obtain rfl : na = k := by omega
      clear hlt hk
      go_wp2
      rename World => w1
      have HR1 : Hid (w1.rowIs w.heap.size 46 (na * 2) (cellF HA CA na)) := hrow
      clear hrow
      have hbel1 := hbel
      clear hbel
      have hs1 := hbel1.size
      go_loopw [49] (fun s wr => ∃ k : Nat, k ≤ nb ∧ s = .int .i64 k ∧ wr.rowIs w1.heap.size 46 (nb * 2) (cellF HB CB k) ∧ Below w1.heap.size w1 wr) (fun s _ => nb - (intOf s).toNat)
      case atStart => exact ⟨0, Nat.zero_le _, rfl, rowIs_Zrow _ _ _ _, (Below.refl _ _).alloc (Nat.le_refl _) _⟩
      case round =>
        obtain ⟨k, hk, rfl, hrow, hbel⟩ := hrel
        by_cases hlt : k < nb
        · obtain ⟨b, off, rfl, hb, c0, c1⟩ := PB.out k hlt
          have hb1 : b < w1.heap.size := by omega
          have hc0 : wr.cell? ⟨b, off + k * 2, none⟩ = some (.int .i64 (HB k)) := (hbel.cell (by exact hb1)).trans ((hbel1.cell (by exact hb)).trans c0)
          have hc1 : wr.cell? ⟨b, off + k * 2 + 1, none⟩ = some (.int .i64 (CB k)) := (hbel.cell (by exact hb1)).trans ((hbel1.cell (by exact hb)).trans c1)
          clear c0 c1
          have r0 := hrow.cell (i := k * 2) (by omega)
          have r1 := hrow.cell (i := k * 2 + 1) (by omega)
          have f0 := hrow.frozen (k * 2)
          have f1 := hrow.frozen (k * 2 + 1)
          have HR : Hid (wr.rowIs w1.heap.size 46 (nb * 2) (cellF HB CB k)) := hrow
          clear hrow
          go_wp2
          go_region
          all_goals go_wp2
          all_goals go_roundw
          case rel => exact ⟨k + 1, by omega, by go_num, (rowIs_entry HR.out).drew, ((hbel.setCell (Nat.le_refl _) _).setCell (Nat.le_refl _) _).drew⟩
          case measure => simp [intOf]; omega
        · obtain rfl : nb = k := by omega
          clear hlt hk
          have hra := HR1.out.of_block (hbel.block _ HR1.out.lt)
          have hlt1 : w.heap.size < wr.heap.size := hra.lt
          have hlt2 : w1.heap.size < wr.heap.size := hrow.lt
          have RA : Hid (wr.rowIs w.heap.size 46 (na * 2) (cellF HA CA na)) := hra
          have RB : Hid (wr.rowIs w1.heap.size 46 (nb * 2) (cellF HB CB nb)) := hrow
          clear hra hrow
          have C := amr_any w.heap.size w1.heap.size na nb na nb HA CA HB CB wr (by omega) (by omega) hlt1 hlt2 (fun i hi => by rw [RA.out.cell (by omega), cellF_even hi]) (fun i hi => by rw [RA.out.cell (by omega), cellF_odd hi]) (fun i hi => by rw [RB.out.cell (by omega), cellF_even hi]) (fun i hi => by rw [RB.out.cell (by omega), cellF_odd hi])
          have AB := amr_bounds HA CA HB CB na nb
          generalize amr HA CA HB CB na nb = r at C AB
          obtain ⟨ok, pas⟩ := r
          dsimp only at C AB
          have HC := hid C
          obtain ⟨hp1, hp2, hp3⟩ := AB
          clear C hma hmb
          have fin : ∀ wr2 : World, Below wr.heap.size wr wr2 → Below w.heap.size w wr2 := fun wr2 h => (hbel1.trans (hbel.mono (by omega))).trans (h.mono (by omega))
          have FIN := hid fin
          clear fin
          cases ok
          case false =>
            have hz : ((na : Int) == 0) = false := beq_eq_false_iff_ne.2 (by have := hp3 rfl; omega)
            clear hp2 hp3
            go_wp2_with (go_at_call 11; refine HC.out.mono ?_; rintro e w2 ⟨rfl, hbel2⟩)
            go_loopw [100] (fun s wr => ∃ k n : Nat, k ≤ na ∧ s = .int .i64 k ∧ wr = w2.drewN n) (fun s _ => na - (intOf s).toNat)
            case atStart => exact ⟨0, 0, Nat.zero_le _, rfl, rfl⟩
            case round =>
              obtain ⟨k, n, hk, rfl, rfl⟩ := hrel
              by_cases hlt : k < na
              · obtain ⟨b, off, rfl, hb, c0, c1⟩ := PA.out k hlt
                have q0 : w2.cell? ⟨b, off + k * 2, none⟩ = some (.int .i64 (HA k)) := ((FIN.out w2 hbel2).cell (by exact hb)).trans c0
                have q1 : w2.cell? ⟨b, off + k * 2 + 1, none⟩ = some (.int .i64 (CA k)) := ((FIN.out w2 hbel2).cell (by exact hb)).trans c1
                have q2 : w2.cell? ⟨w.heap.size, k * 2, none⟩ = some (.int .i64 (HA k)) := (hbel2.cell (by exact hlt1)).trans (by rw [RA.out.cell (by omega), cellF_even hlt])
                have q3 : w2.cell? ⟨w.heap.size, k * 2 + 1, none⟩ = some (.int .i64 (CA k)) := (hbel2.cell (by exact hlt1)).trans (by rw [RA.out.cell (by omega), cellF_odd hlt])
                clear c0 c1
                have hlt' : (k : Int) < (na : Int) := by omega
                go_wp2
                go_quiet (fail)
                go_wp2
                go_roundw
                case rel => exact ⟨k + 1, n + nq, by omega, by go_num, rfl⟩
                case measure => simp [intOf]; omega
              · go_wp2
                clear hk hlt
                go_loopw [130] (fun s wr => ∃ k n : Nat, k ≤ nb ∧ s = .int .i64 k ∧ wr = w2.drewN n) (fun s _ => nb - (intOf s).toNat)
                case atStart => exact ⟨0, n, Nat.zero_le _, rfl, rfl⟩
                case round =>
                  obtain ⟨k', n', hk, rfl, rfl⟩ := hrel
                  by_cases hlt : k' < nb
                  · obtain ⟨b, off, rfl, hb, c0, c1⟩ := PB.out k' hlt
                    have q0 : w2.cell? ⟨b, off + k' * 2, none⟩ = some (.int .i64 (HB k')) := ((FIN.out w2 hbel2).cell (by exact hb)).trans c0
                    have q1 : w2.cell? ⟨b, off + k' * 2 + 1, none⟩ = some (.int .i64 (CB k')) := ((FIN.out w2 hbel2).cell (by exact hb)).trans c1
                    have q2 : w2.cell? ⟨w1.heap.size, k' * 2, none⟩ = some (.int .i64 (HB k')) := (hbel2.cell (by exact hlt2)).trans (by rw [RB.out.cell (by omega), cellF_even hlt])
                    have q3 : w2.cell? ⟨w1.heap.size, k' * 2 + 1, none⟩ = some (.int .i64 (CB k')) := (hbel2.cell (by exact hlt2)).trans (by rw [RB.out.cell (by omega), cellF_odd hlt])
                    clear c0 c1
                    have hlt' : (k' : Int) < (nb : Int) := by omega
                    go_wp2
                    go_quiet (fail)
                    go_wp2
                    go_roundw
                    case rel => exact ⟨k' + 1, n' + nq, by omega, by go_num, rfl⟩
                    case measure => simp [intOf]; omega
                  · go_wp2
                    go_ret
                    exact ⟨rfl, below_drewN (FIN.out w2 hbel2) _⟩
          case true =>
            have hp := hp2 rfl
            clear hp2 hp3
            go_wp2_with (go_at_call 11; refine HC.out.mono ?_; rintro e w2 ⟨rfl, hbel2⟩)
            go_loopw [100] (fun s wr => ∃ k n : Nat, k ≤ na ∧ s = .int .i64 k ∧ wr = w2.drewN n) (fun s _ => na - (intOf s).toNat)
            case atStart => exact ⟨0, 0, Nat.zero_le _, rfl, rfl⟩
            case round =>
              obtain ⟨k, n, hk, rfl, rfl⟩ := hrel
              by_cases hlt : k < na
              · obtain ⟨b, off, rfl, hb, c0, c1⟩ := PA.out k hlt
                have q0 : w2.cell? ⟨b, off + k * 2, none⟩ = some (.int .i64 (HA k)) := ((FIN.out w2 hbel2).cell (by exact hb)).trans c0
                have q1 : w2.cell? ⟨b, off + k * 2 + 1, none⟩ = some (.int .i64 (CA k)) := ((FIN.out w2 hbel2).cell (by exact hb)).trans c1
                have q2 : w2.cell? ⟨w.heap.size, k * 2, none⟩ = some (.int .i64 (HA k)) := (hbel2.cell (by exact hlt1)).trans (by rw [RA.out.cell (by omega), cellF_even hlt])
                have q3 : w2.cell? ⟨w.heap.size, k * 2 + 1, none⟩ = some (.int .i64 (CA k)) := (hbel2.cell (by exact hlt1)).trans (by rw [RA.out.cell (by omega), cellF_odd hlt])
                clear c0 c1
                have hlt' : (k : Int) < (na : Int) := by omega
                go_wp2
                go_quiet (fail)
                go_wp2
                go_roundw
                case rel => exact ⟨k + 1, n + nq, by omega, by go_num, rfl⟩
                case measure => simp [intOf]; omega
              · go_wp2
                clear hk hlt
                go_loopw [130] (fun s wr => ∃ k n : Nat, k ≤ nb ∧ s = .int .i64 k ∧ wr = w2.drewN n) (fun s _ => nb - (intOf s).toNat)
                case atStart => exact ⟨0, n, Nat.zero_le _, rfl, rfl⟩
                case round =>
                  obtain ⟨k', n', hk, rfl, rfl⟩ := hrel
                  by_cases hlt : k' < nb
                  · obtain ⟨b, off, rfl, hb, c0, c1⟩ := PB.out k' hlt
                    have q0 : w2.cell? ⟨b, off + k' * 2, none⟩ = some (.int .i64 (HB k')) := ((FIN.out w2 hbel2).cell (by exact hb)).trans c0
                    have q1 : w2.cell? ⟨b, off + k' * 2 + 1, none⟩ = some (.int .i64 (CB k')) := ((FIN.out w2 hbel2).cell (by exact hb)).trans c1
                    have q2 : w2.cell? ⟨w1.heap.size, k' * 2, none⟩ = some (.int .i64 (HB k')) := (hbel2.cell (by exact hlt2)).trans (by rw [RB.out.cell (by omega), cellF_even hlt])
                    have q3 : w2.cell? ⟨w1.heap.size, k' * 2 + 1, none⟩ = some (.int .i64 (CB k')) := (hbel2.cell (by exact hlt2)).trans (by rw [RB.out.cell (by omega), cellF_odd hlt])
                    clear c0 c1
                    have hlt' : (k' : Int) < (nb : Int) := by omega
                    go_wp2
                    go_quiet (fail)
                    go_wp2
                    go_roundw
                    case rel => exact ⟨k' + 1, n' + nq, by omega, by go_num, rfl⟩
                    case measure => simp [intOf]; omega
                  · go_wp2
                    go_ret
                    exact ⟨rfl, below_drewN (FIN.out w2 hbel2) _⟩
end Go.Proofs.Ybulkdeho
