/-
  THE WALK of 'LawS5279AWithin' (function 4).
-/
import Derived.Test.YbulkdehoTallyWalk
import Derived.Test.YbulkdehoWithin
import Derived.Deep.RegionWith
namespace Go.Proofs.Ybulkdeho
open Go.RowKit Go.Proofs.Ybulkdeho.Plain Go.Deep
set_option linter.unusedVariables false

/-- What is known of a slice of steps that came in. -/
def Trips (w : World) (ao : Option Addr) (len : Nat) (Z0 Z1 Z2 : Nat → Int) : Prop :=
  ∀ i, i < len → ∃ b off, ao = some ⟨b, off, none⟩ ∧ b < w.heap.size ∧ w.cell? ⟨b, off + i * 3, none⟩ = some (.int .u8 (Z0 i)) ∧ w.cell? ⟨b, off + i * 3 + 1, none⟩ = some (.int .u16 (Z1 i)) ∧ w.cell? ⟨b, off + i * 3 + 2, none⟩ = some (.int .u16 (Z2 i))

theorem Inv.alloc {w : World} {bc bt sz : Nat} {M : Nat → Int} {fw : Bool} {adds top : Int} (h : Inv w bc bt sz M fw adds top) (o : Obj) : Inv (w.alloc o) bc bt sz M fw adds top :=
  h.other (Below.heap_alloc _ _ _ h.head.lt) (Below.heap_alloc _ _ _ h.tree.lt)

/-- What holds of the world at the head of each round: B is the first block of the call's own. -/
structure At (w : World) (sz : Nat) (M : Nat → Int) (fw : Bool) (adds top : Int) (wr : World) : Prop where
  inv : Inv wr (w.heap.size + 1 + 1) w.heap.size sz M fw adds top
  mod : wr.rowIs (w.heap.size + 1 + 1 + 1) 3 sz (fun i => .int .i64 (M i))
  bel : Below w.heap.size w wr

theorem At.alloc {w wr : World} {sz : Nat} {M : Nat → Int} {fw : Bool} {adds top : Int} (h : At w sz M fw adds top wr) (o : Obj) : At w sz M fw adds top (wr.alloc o) :=
  ⟨h.inv.alloc o, h.mod.alloc o, h.bel.alloc h.bel.size o⟩

theorem At.drewN {w wr : World} {sz : Nat} {M : Nat → Int} {fw : Bool} {adds top : Int} (h : At w sz M fw adds top wr) (n : Nat) : At w sz M fw adds top (wr.drewN n) :=
  ⟨h.inv.other rfl rfl, h.mod.of_block rfl, below_drewN h.bel n⟩

/-- Behind a call of 'within'. -/
theorem At.asked {w wr w1 : World} {sz : Nat} {M : Nat → Int} {fw fw' : Bool} {adds top : Int} (h : At w sz M fw adds top wr) (hi : Inv w1 (w.heap.size + 1 + 1) w.heap.size sz M fw' adds top) (ht : Touch (w.heap.size + 1 + 1) w.heap.size wr w1) :
    At w sz M fw' adds top w1 :=
  ⟨hi, ht.row h.mod (by omega) (by omega), h.bel.trans (ht.below (by omega) (Nat.le_refl _))⟩

/-- Behind a call of 'add' and 'model[p]++'. -/
theorem At.added {w wr w1 : World} {sz p : Nat} {M : Nat → Int} {fw : Bool} {adds top : Int} (h : At w sz M fw adds top wr) (hi : Inv w1 (w.heap.size + 1 + 1) w.heap.size sz (addTo M p) fw (adds + 1) (topOf top p)) (ht : Touch (w.heap.size + 1 + 1) w.heap.size wr w1) :
    At w sz (addTo M p) fw (adds + 1) (topOf top p) (w1.setCell ⟨w.heap.size + 1 + 1 + 1, p, none⟩ (.int .i64 (M p + 1))) :=
  ⟨hi.other (Below.heap_setCell _ _ _ _ (by show _ ≠ w.heap.size + 1 + 1 + 1; omega)) (Below.heap_setCell _ _ _ _ (by show _ ≠ w.heap.size + 1 + 1 + 1; omega)), rowIs_addTo (ht.row h.mod (by omega) (by omega)),
    (h.bel.trans (ht.below (by omega) (Nat.le_refl _))).setCell (by show w.heap.size ≤ w.heap.size + 1 + 1 + 1; omega) _⟩

set_option maxHeartbeats 1600000 in
set_option maxRecDepth 100000 in
theorem withinLaw_any (n : Int) (ao : Option Addr) (len cap : Nat) (Z0 Z1 Z2 : Nat → Int) (w : World) (hn0 : 0 ≤ n) (hn1 : n ≤ 65535) (hZ : Trips w ao len Z0 Z1 Z2)
    (hb : ∀ i, i < len → (0 ≤ Z0 i ∧ Z0 i ≤ 255) ∧ (0 ≤ Z1 i ∧ Z1 i ≤ 65535) ∧ (0 ≤ Z2 i ∧ Z2 i ≤ 65535)) (hlen : len ≤ 9223372036854775807) :
    Calls Yba.prog 4 #[.int .u16 n, .slice ao len cap] w fun e w' => e = .returned (.bool true) ∧ Below w.heap.size w w' := by
  have PZ := hidc hZ
  have PB := hidc hb
  clear hZ hb
  by_cases h1 : 1024 < len
  · go_enter Yba.func4, Yba.ntmps4
    go_wp2
    go_ret
    exact ⟨rfl, Below.refl _ _⟩
  obtain ⟨sz, hsz⟩ : ∃ sz : Nat, 1 + n % 300 = (sz : Int) := ⟨(1 + n % 300).toNat, by omega⟩
  have hs1 : 1 ≤ sz := by omega
  have hs2 : sz ≤ 300 := by omega
  have hm1 := run_make_ints (sz + 1) (by omega)
  have hm2 := run_make_ints sz (by omega)
  rw [show ((sz + 1 : Nat) : Int) = (sz : Int) + 1 from by omega] at hm1
  go_enter Yba.func4, Yba.ntmps4
  go_wp2_with (go_at_call 7; refine (new_any _ _ _).mono ?_; rintro e w' ⟨rfl, rfl⟩)
  go_loopw [9, 34] (fun sa si wr => ∃ (k adds : Nat) (M : Nat → Int) (fw : Bool) (top : Int), k ≤ len ∧ adds ≤ k ∧ si = .int .i64 k ∧ sa = .int .i64 adds ∧ At w sz M fw adds top wr)
    (fun _ si _ => len - (intOf si).toNat)
  case atStart =>
    have h := start_inv w sz rfl
    exact ⟨0, 0, fun _ => 0, false, -1, Nat.zero_le _, Nat.le_refl _, rfl, rfl, h.1, h.2.1, h.2.2⟩
  case round =>
    obtain ⟨k, adds, M, fw, top, hk, hak, rfl, rfl, hat⟩ := hrel
    clear hm1 hm2
    by_cases hlt : k < len
    · obtain ⟨b, off, rfl, hb, c0, c1, c2⟩ := PZ.out k hlt
      obtain ⟨⟨z0, z1⟩, ⟨z2, z3⟩, ⟨z4, z5⟩⟩ := PB.out k hlt
      have hc0 : wr.cell? ⟨b, off + k * 3, none⟩ = some (.int .u8 (Z0 k)) := (hat.bel.cell (by exact hb)).trans c0
      have hc1 : wr.cell? ⟨b, off + k * 3 + 1, none⟩ = some (.int .u16 (Z1 k)) := (hat.bel.cell (by exact hb)).trans c1
      have hc2 : wr.cell? ⟨b, off + k * 3 + 2, none⟩ = some (.int .u16 (Z2 k)) := (hat.bel.cell (by exact hb)).trans c2
      clear c0 c1 c2
      obtain ⟨p, hp⟩ : ∃ p : Nat, Z1 k % (sz : Int) = (p : Int) := ⟨(Z1 k % (sz : Int)).toNat, by have := Int.emod_nonneg (Z1 k) (show (sz : Int) ≠ 0 by omega); omega⟩
      have hp2 : p < sz := by have := Int.emod_lt_of_pos (Z1 k) (show (0 : Int) < (sz : Int) by omega); omega
      have HAT := hidc hat
      clear hat
      by_cases hz : Z0 k % 3 = 0
      · have hzb : (Z0 k % 3 != 0) = false := by simp [hz]
        have HZ := hidc hz
        clear hz
        obtain ⟨q, hq⟩ : ∃ q : Nat, Z2 k % (sz : Int) = (q : Int) := ⟨(Z2 k % (sz : Int)).toNat, by have := Int.emod_nonneg (Z2 k) (show (sz : Int) ≠ 0 by omega); omega⟩
        have hq2 : q < sz := by have := Int.emod_lt_of_pos (Z2 k) (show (0 : Int) < (sz : Int) by omega); omega
        have hat1 := HAT.out.alloc (Obj.cells #[Value.int .u8 (Z0 k), Value.int .u16 (Z1 k), Value.int .u16 (Z2 k)] 32)
        by_cases hsw : q < p
        · go_wp2_with fail
          simp only [hp, hq]
          have HC := hidc (within_any _ _ sz q p M fw adds top _ hs2 (by omega) (by omega) (by omega) hat1.inv)
          have HM := hidc hat1
          clear hat1 hp hq hc0 hc1 hc2
          go_loop [15, 16] (fun sw si => ∃ i : Nat, q ≤ i ∧ i ≤ p + 1 ∧ si = .int .i64 i ∧ sw = .int .i64 (sm M i - sm M q)) (fun _ si => p + 1 - (intOf si).toNat)
          case atStart => exact ⟨q, Nat.le_refl _, by omega, rfl, by rw [Int.sub_self]⟩
          case round =>
            obtain ⟨i, hi1, hi2, rfl, rfl⟩ := hrel
            by_cases hil : i ≤ p
            · have g0 : (wr.alloc (Obj.cells #[Value.int .u8 (Z0 k), Value.int .u16 (Z1 k), Value.int .u16 (Z2 k)] 32)).cell? ⟨w.heap.size + 1 + 1 + 1, i, none⟩ = some (.int .i64 (M i)) := HM.out.mod.cell (by omega)
              have s0 := HM.out.inv.book.sum hi1 (show i ≤ sz by omega)
              have s1 := HM.out.inv.book.one (show i < sz by omega)
              go_wp2_with fail
              go_round
              case rel => exact ⟨i + 1, by omega, by omega, by go_num, congrArg (Value.int .i64) (by show _ = sm M i + M i - _; omega)⟩
              case measure => simp [intOf]; omega
            · obtain rfl : i = p + 1 := by omega
              go_wp2_with (go_at_call 9; refine HC.out.mono ?_; rintro e w1 ⟨rfl, ⟨fw', hinv1⟩, htch⟩)
              go_roundw
              case rel => exact ⟨k + 1, adds, M, fw', top, by omega, by omega, by go_num, rfl, HM.out.asked hinv1 htch⟩
              case measure => simp [intOf]; omega
        · go_wp2_with fail
          simp only [hp, hq]
          have HC := hidc (within_any _ _ sz p q M fw adds top _ hs2 (by omega) (by omega) (by omega) hat1.inv)
          have HM := hidc hat1
          clear hat1 hp hq hc0 hc1 hc2
          go_loop [15, 16] (fun sw si => ∃ i : Nat, p ≤ i ∧ i ≤ q + 1 ∧ si = .int .i64 i ∧ sw = .int .i64 (sm M i - sm M p)) (fun _ si => q + 1 - (intOf si).toNat)
          case atStart => exact ⟨p, Nat.le_refl _, by omega, rfl, by rw [Int.sub_self]⟩
          case round =>
            obtain ⟨i, hi1, hi2, rfl, rfl⟩ := hrel
            by_cases hil : i ≤ q
            · have g0 : (wr.alloc (Obj.cells #[Value.int .u8 (Z0 k), Value.int .u16 (Z1 k), Value.int .u16 (Z2 k)] 32)).cell? ⟨w.heap.size + 1 + 1 + 1, i, none⟩ = some (.int .i64 (M i)) := HM.out.mod.cell (by omega)
              have s0 := HM.out.inv.book.sum hi1 (show i ≤ sz by omega)
              have s1 := HM.out.inv.book.one (show i < sz by omega)
              go_wp2_with fail
              go_round
              case rel => exact ⟨i + 1, by omega, by omega, by go_num, congrArg (Value.int .i64) (by show _ = sm M i + M i - _; omega)⟩
              case measure => simp [intOf]; omega
            · obtain rfl : i = q + 1 := by omega
              go_wp2_with (go_at_call 9; refine HC.out.mono ?_; rintro e w1 ⟨rfl, ⟨fw', hinv1⟩, htch⟩)
              go_roundw
              case rel => exact ⟨k + 1, adds, M, fw', top, by omega, by omega, by go_num, rfl, HM.out.asked hinv1 htch⟩
              case measure => simp [intOf]; omega
      · have hzb : (Z0 k % 3 != 0) = true := by simpa using hz
        have HZ := hidc hz
        clear hz
        have hat1 := HAT.out.alloc (Obj.cells #[Value.int .u8 (Z0 k), Value.int .u16 (Z1 k), Value.int .u16 (Z2 k)] 32)
        have HC := hidc (add_any _ _ sz p M fw adds top _ hs2 hp2 (by omega) hat1.inv)
        have mb := HAT.out.inv.book.one hp2
        have HM := hidc hat1
        clear hat1
        go_wp2_with (go_at_call 8; refine HC.out.mono ?_; rintro e w1 ⟨rfl, hinv1, htch⟩; have m1 := (htch.row HM.out.mod (by omega) (by omega)).cell hp2; have mf1 := (htch.row HM.out.mod (by omega) (by omega)).frozen p)
        go_roundw
        case rel => exact ⟨k + 1, adds + 1, addTo M p, fw, topOf top p, by omega, by omega, by go_num, by go_num, HM.out.added hinv1 htch⟩
        case measure => simp [intOf]; omega
    · have c2 : wr.cell? ⟨w.heap.size + 1 + 1, 2, none⟩ = some (.int .i64 adds) := hat.inv.head.cell (i := 2) (by omega)
      have HAT := hidc hat
      clear hat
      go_wp2_with fail
      rename World => w0
      clear c2
      go_loopw [17] (fun s wr => ∃ (i : Nat) (fw : Bool), i ≤ sz ∧ s = .int .i64 i ∧ At w sz M fw adds top wr) (fun s _ => sz - (intOf s).toNat)
      case atStart => exact ⟨0, fw, Nat.zero_le _, rfl, HAT.out⟩
      case round =>
        obtain ⟨i, fw1, hi, rfl, hat⟩ := hrel
        by_cases hil : i < sz
        · have m0 := hat.mod.cell hil
          have hil' : (i : Int) < (sz : Int) := by omega
          have hc := fun n => within_any _ _ sz i i M fw1 adds top _ hs2 (Nat.le_refl _) hil (by omega) (hat.drewN n).inv
          rw [show sm M (i + 1) - sm M i = M i from by show sm M i + M i - sm M i = M i; omega] at hc
          have HC := hidc hc
          clear hc
          have HM := hidc hat
          clear hat
          go_wp2_with fail
          go_region_with (go_at_call 9; refine (HC.out 1).mono ?_; rintro e w1 ⟨rfl, ⟨fw', hinv1⟩, htch⟩; have m1 := (htch.row (HM.out.drewN 1).mod (by omega) (by omega)).cell hil)
          all_goals go_wp2_with fail
          all_goals (refine ⟨⟨i + 1, _, by omega, by go_num, (HM.out.drewN 1).asked (by assumption) (by assumption)⟩, by simp [intOf]; omega⟩)
        · have hc : Calls Yba.prog 9 #[.pointer (some ⟨w.heap.size + 1 + 1, 0, none⟩), .int .i64 0, .int .i64 ((sz : Int) - 1)] wr fun e w' => e = .returned (.int .i64 adds) ∧ (∃ fw', Inv w' (w.heap.size + 1 + 1) w.heap.size sz M fw' adds top) ∧ Touch (w.heap.size + 1 + 1) w.heap.size wr w' := by
            have h := within_any _ _ sz 0 (sz - 1) M fw1 adds top wr hs2 (Nat.zero_le _) (by omega) (by omega) hat.inv
            rw [show ((sz - 1 : Nat) : Int) = (sz : Int) - 1 from by omega, show sm M (sz - 1 + 1) - sm M 0 = adds from by rw [show sz - 1 + 1 = sz from by omega, hat.inv.book.tot]; simp [sm]] at h
            exact h
          have HC := hidc hc
          have HM := hidc hat
          clear hc hat
          go_wp2_with (go_at_call 9; refine HC.out.mono ?_; rintro e w1 ⟨rfl, ⟨fw', hinv1⟩, htch⟩)
          go_ret
          exact ⟨rfl, (HM.out.asked hinv1 htch).bel⟩
end Go.Proofs.Ybulkdeho
