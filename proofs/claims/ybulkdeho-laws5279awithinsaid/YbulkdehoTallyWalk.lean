/-
  THE WALK of 'LawS5279ATally' (function 3).
-/
import Derived.Test.YbulkdehoCnt
namespace Go.Proofs.Ybulkdeho
open Go.RowKit Go.Proofs.Ybulkdeho.Plain Go.Deep
set_option linter.unusedVariables false

/-- What is known of a slice of integers that came in. -/
def Ints (w : World) (k : IntKind) (ao : Option Addr) (len : Nat) (Z : Nat → Int) : Prop :=
  ∀ i, i < len → ∃ b off, ao = some ⟨b, off, none⟩ ∧ b < w.heap.size ∧ w.cell? ⟨b, off + i, none⟩ = some (.int k (Z i))

/-- The block that 'make([]int, n)' lays. -/
def Irow (n : Nat) : Obj := .cells (madeCells #[.int .i64 0] n) 3
theorem Yba.info3 : (Yba.prog.info? 3).map (fun i => (i.zero, i.size, i.bytes)) = some (some (.int .i64 0), 1, 8) := by kernel_rfl
theorem run_make_ints (n : Nat) (hn : n ≤ 1024) (w : World) : (Instr.makeSlice 24 (.int .i64 (n : Int)) (.int .i64 (n : Int))).run Yba.prog w = .ok (.slice (some ⟨w.heap.size, 0, none⟩) n n) (w.alloc (Irow n)) :=
  run_make_row' (P := Yba.prog) 24 3 (.int .i64 0) 8 Yba.underlying24 Yba.info3 rfl .i64 .i64 n (by omega) (by omega) w
theorem rowIs_Irow (w : World) (n : Nat) : (w.alloc (Irow n)).rowIs w.heap.size 3 n (fun _ => .int .i64 0) := World.rowIs_made w _ n 3

/-- newPlaceCounter -/
theorem new_any (bt n : Nat) (w : World) : Calls Yba.prog 7 #[.slice (some ⟨bt, 0, none⟩) n n] w fun e w' =>
    e = .returned (.agg #[.slice (some ⟨bt, 0, none⟩) n n, .bool false, .int .i64 0, .int .i64 (-1)]) ∧ w' = w.alloc (.cells #[.slice (some ⟨bt, 0, none⟩) n n, .bool false, .int .i64 0, .int .i64 (-1)] 26) := by
  go_enter Yba.func7, Yba.ntmps7
  go_wp2
  exact bodyPost_ret (v := .agg #[.slice (some ⟨bt, 0, none⟩) n n, .bool false, .int .i64 0, .int .i64 (-1)]) (by simp [results, Yba.results7, go_sem]) rfl ⟨rfl, rfl⟩

/-- The world when the counter and the model have been laid. -/
theorem start_inv (w : World) (sz : Nat) {W : World} (hW : W = (((w.alloc (Irow (sz + 1))).alloc (Obj.cells #[Value.slice (some ⟨w.heap.size, 0, none⟩) (sz + 1) (sz + 1), Value.bool false, Value.int .i64 0, Value.int .i64 (-1)] 26)).alloc
      (Obj.cells #[Value.slice (some ⟨w.heap.size, 0, none⟩) (sz + 1) (sz + 1), Value.bool false, Value.int .i64 0, Value.int .i64 (-1)] 26)).alloc (Irow sz)) :
    Inv W (w.heap.size + 1 + 1) w.heap.size sz (fun _ => 0) false 0 (-1) ∧ W.rowIs (w.heap.size + 1 + 1 + 1) 3 sz (fun _ => .int .i64 0) ∧ Below w.heap.size w W := by
  subst hW
  refine ⟨⟨?_, ?_, by omega, Book.start sz⟩, ?_, ?_⟩
  · refine ((((rowIs_Irow w (sz + 1)).alloc _).alloc _).alloc _).congr fun i _ => ?_
    rw [tr_start]
  · have h := World.rowIs_alloc ((w.alloc (Irow (sz + 1))).alloc (Obj.cells #[Value.slice (some ⟨w.heap.size, 0, none⟩) (sz + 1) (sz + 1), Value.bool false, Value.int .i64 0, Value.int .i64 (-1)] 26))
      #[Value.slice (some ⟨w.heap.size, 0, none⟩) (sz + 1) (sz + 1), Value.bool false, Value.int .i64 0, Value.int .i64 (-1)] 26 (ctr w.heap.size sz false 0 (-1)) (fun i hi => by
        match i, hi with
        | 0, _ => rfl
        | 1, _ => rfl
        | 2, _ => rfl
        | 3, _ => rfl)
    have h2 := h.alloc (Irow sz)
    simpa using h2
  · have h := rowIs_Irow (((w.alloc (Irow (sz + 1))).alloc (Obj.cells #[Value.slice (some ⟨w.heap.size, 0, none⟩) (sz + 1) (sz + 1), Value.bool false, Value.int .i64 0, Value.int .i64 (-1)] 26)).alloc
      (Obj.cells #[Value.slice (some ⟨w.heap.size, 0, none⟩) (sz + 1) (sz + 1), Value.bool false, Value.int .i64 0, Value.int .i64 (-1)] 26)) sz
    simpa using h
  · exact ((((Below.refl _ _).alloc (Nat.le_refl _) _).alloc (by simp) _).alloc (by simp; omega) _).alloc (by simp; omega) _

theorem rowIs_addTo {w : World} {b sz p : Nat} {M : Nat → Int} (h : w.rowIs b 3 sz (fun i => .int .i64 (M i))) : (w.setCell ⟨b, p, none⟩ (.int .i64 (M p + 1))).rowIs b 3 sz (fun i => .int .i64 (addTo M p i)) := by
  refine (h.set p _).congr fun i hi => ?_
  unfold addTo
  by_cases e : i = p
  · rw [if_pos e, if_pos e, e]
  · rw [if_neg e, if_neg e]

set_option maxHeartbeats 1600000 in
set_option maxRecDepth 100000 in
theorem tally_any (n : Int) (ao : Option Addr) (len cap : Nat) (Z : Nat → Int) (w : World) (hn0 : 0 ≤ n) (hn1 : n ≤ 65535) (hZ : Ints w .u16 ao len Z) (hb : ∀ i, i < len → 0 ≤ Z i ∧ Z i ≤ 65535) (hlen : len ≤ 9223372036854775807) :
    Calls Yba.prog 3 #[.int .u16 n, .slice ao len cap] w fun e w' => e = .returned (.bool true) ∧ Below w.heap.size w w' := by
  have PZ := hidc hZ
  have PB := hidc hb
  clear hZ hb
  by_cases h1 : 1024 < len
  · go_enter Yba.func3, Yba.ntmps3
    go_wp2
    go_ret
    exact ⟨rfl, Below.refl _ _⟩
  obtain ⟨sz, hsz⟩ : ∃ sz : Nat, 1 + n % 300 = (sz : Int) := ⟨(1 + n % 300).toNat, by omega⟩
  have hs1 : 1 ≤ sz := by omega
  have hs2 : sz ≤ 300 := by omega
  have hm1 := run_make_ints (sz + 1) (by omega)
  have hm2 := run_make_ints sz (by omega)
  rw [show ((sz + 1 : Nat) : Int) = (sz : Int) + 1 from by omega] at hm1
  go_enter Yba.func3, Yba.ntmps3
  go_wp2_with (go_at_call 7; refine (new_any _ _ _).mono ?_; rintro e w' ⟨rfl, rfl⟩)
  go_loopw [9, 30] (fun st si wr => ∃ (k : Nat) (M : Nat → Int) (top : Int), k ≤ len ∧ si = .int .i64 k ∧ st = .int .i64 top ∧ Inv wr (w.heap.size + 1 + 1) w.heap.size sz M false k top ∧ wr.rowIs (w.heap.size + 1 + 1 + 1) 3 sz (fun i => .int .i64 (M i)) ∧ Below w.heap.size w wr)
    (fun _ si _ => len - (intOf si).toNat)
  case atStart =>
    have h := start_inv w sz rfl
    exact ⟨0, fun _ => 0, -1, Nat.zero_le _, rfl, rfl, h.1, h.2.1, h.2.2⟩
  case round =>
    obtain ⟨k, M, top, hk, rfl, rfl, hinv, hmod, hbel⟩ := hrel
    clear hm1 hm2
    by_cases hlt : k < len
    · obtain ⟨b, off, rfl, hb, c0⟩ := PZ.out k hlt
      obtain ⟨z0, z1⟩ := PB.out k hlt
      have hc0 : wr.cell? ⟨b, off + k, none⟩ = some (.int .u16 (Z k)) := (hbel.cell (by exact hb)).trans c0
      clear c0
      obtain ⟨p, hp⟩ : ∃ p : Nat, Z k % (sz : Int) = (p : Int) := ⟨(Z k % (sz : Int)).toNat, by have := Int.emod_nonneg (Z k) (show (sz : Int) ≠ 0 by omega); omega⟩
      have hp2 : p < sz := by have := Int.emod_lt_of_pos (Z k) (show (0 : Int) < (sz : Int) by omega); omega
      have HC := hidc (add_tally (w.heap.size + 1 + 1) w.heap.size sz p M k top wr hs2 hp2 (by omega) hinv)
      have m0 := hmod.cell (i := p) hp2
      have mf := hmod.frozen p
      have mb := hinv.book.one hp2
      have HM := hidc hmod
      clear hinv hmod
      by_cases htop : top < p
      · have HT := hidc (show topOf top p = (p : Int) from if_pos htop)
        go_wp2_with (go_at_call 8; refine HC.out.mono ?_; rintro e w1 ⟨rfl, hinv1, htch⟩; have m1 := (htch.row HM.out (by omega) (by omega)).cell hp2; have mf1 := (htch.row HM.out (by omega) (by omega)).frozen p)
        have R := (htch.row HM.out (by omega) (by omega))
        go_roundw
        case rel => exact ⟨k + 1, addTo M p, (p : Int), by omega, by go_num, rfl, by have h2 := hinv1; rw [HT.out] at h2; exact (show (((k + 1 : Nat) : Int)) = (k : Int) + 1 by omega) ▸ h2.other (Below.heap_setCell _ _ _ _ (by show _ ≠ w.heap.size + 1 + 1 + 1; omega)) (Below.heap_setCell _ _ _ _ (by show _ ≠ w.heap.size + 1 + 1 + 1; omega)), rowIs_addTo R, (hbel.trans (htch.below (by omega) (Nat.le_refl _))).setCell (by show w.heap.size ≤ w.heap.size + 1 + 1 + 1; omega) _⟩
        case measure => simp [intOf]; omega
      · have HT := hidc (show topOf top p = top from if_neg htop)
        go_wp2_with (go_at_call 8; refine HC.out.mono ?_; rintro e w1 ⟨rfl, hinv1, htch⟩; have m1 := (htch.row HM.out (by omega) (by omega)).cell hp2; have mf1 := (htch.row HM.out (by omega) (by omega)).frozen p)
        have R := (htch.row HM.out (by omega) (by omega))
        go_roundw
        case rel => exact ⟨k + 1, addTo M p, top, by omega, by go_num, rfl, by have h2 := hinv1; rw [HT.out] at h2; exact (show (((k + 1 : Nat) : Int)) = (k : Int) + 1 by omega) ▸ h2.other (Below.heap_setCell _ _ _ _ (by show _ ≠ w.heap.size + 1 + 1 + 1; omega)) (Below.heap_setCell _ _ _ _ (by show _ ≠ w.heap.size + 1 + 1 + 1; omega)), rowIs_addTo R, (hbel.trans (htch.below (by omega) (Nat.le_refl _))).setCell (by show w.heap.size ≤ w.heap.size + 1 + 1 + 1; omega) _⟩
        case measure => simp [intOf]; omega
    · obtain rfl : k = len := by omega
      have c0 : wr.cell? ⟨w.heap.size + 1 + 1, 0, none⟩ = some (.slice (some ⟨w.heap.size, 0, none⟩) (sz + 1) (sz + 1)) := hinv.head.cell (i := 0) (by omega)
      have c1 : wr.cell? ⟨w.heap.size + 1 + 1, 1, none⟩ = some (.bool false) := hinv.head.cell (i := 1) (by omega)
      have c2 : wr.cell? ⟨w.heap.size + 1 + 1, 2, none⟩ = some (.int .i64 k) := hinv.head.cell (i := 2) (by omega)
      have c3 : wr.cell? ⟨w.heap.size + 1 + 1, 3, none⟩ = some (.int .i64 top) := hinv.head.cell (i := 3) (by omega)
      have t0 : wr.cell? ⟨w.heap.size, 0, none⟩ = some (.int .i64 0) := by have := hinv.tree.cell (i := 0) (by omega); rwa [tr_zero] at this
      have HI := hidc hinv
      have HM := hidc hmod
      clear hinv hmod
      go_wp2
      go_loopw [13] (fun s w2 => ∃ i n : Nat, i ≤ sz ∧ s = .int .i64 i ∧ w2 = wr.drewN n) (fun s _ => sz - (intOf s).toNat)
      case atStart => exact ⟨0, 0, Nat.zero_le _, rfl, rfl⟩
      case round =>
        obtain ⟨i, n', hi, rfl, rfl⟩ := hrel
        by_cases hil : i < sz
        · have q0 : wr.cell? ⟨w.heap.size, i + 1, none⟩ = some (.int .i64 (M i)) := by have := HI.out.tree.cell (i := i + 1) (by omega); rwa [tr_tally_succ] at this
          have q1 := HM.out.cell hil
          have hil' : (i : Int) < (sz : Int) := by omega
          have hil2 : (i : Int) + 1 < (sz : Int) + 1 := by omega
          go_wp2
          go_quiet (fail)
          go_wp2
          go_roundw
          case rel => exact ⟨i + 1, n' + nq, by omega, by go_num, rfl⟩
          case measure => simp [intOf]; omega
        · go_wp2
          go_ret
          exact ⟨rfl, below_drewN hbel _⟩
end Go.Proofs.Ybulkdeho
