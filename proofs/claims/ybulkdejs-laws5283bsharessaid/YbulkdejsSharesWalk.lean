/-
  THE WALK of 'LawS5283BShares' (4).
-/
import Derived.Test.YbulkdejsEnd
namespace Go.Proofs.Ybulkdejs
open Go.RowKit Go.Deep
set_option linter.unusedVariables false
set_option linter.unusedSimpArgs false

/-- A slice of bytes that is read. -/
def Bytes (w : World) (ao : Option Addr) (n : Nat) (Z : Nat → Nat) : Prop :=
  ∀ i, i < n → ∃ b off, ao = some ⟨b, off, none⟩ ∧ b < w.heap.size ∧ w.cell? ⟨b, off + i, none⟩ = some (.int .u8 (Z i)) ∧ Z i ≤ 255

/-- No entry is laid yet. -/
def Bz (w : World) (rb k : Nat) (sh : Bool) (l : Nat → Nat) (W : World) : Prop := ∃ R tm tag TF RF A, Bi w w.heap.size R rb k tm l 0 W tag TF RF A ∧ R 19 = .slice tm k k ∧ R 2 = .bool sh

set_option maxHeartbeats 4000000 in
set_option maxRecDepth 100000 in
theorem shares_any (n0 : Nat) (T : Int) (ao : Option Addr) (k cap : Nat) (Z : Nat → Nat) (lo lh lr : Nat) (w : World) (h0 : n0 ≤ 65535) (hT : (Lit.int .i64 T).wf = true) (hk : k ≤ 9223372036854775807) (hz : Bytes w ao k Z) (h1 : lo ≤ 255) (h2 : lh ≤ 255) (h3 : lr ≤ 255) :
    Calls Yba.prog 4 #[.int .u16 n0, .int .i64 T, .slice ao k cap, .int .u8 lo, .int .u8 lh, .int .u8 lr] w fun e w' => e = .returned (.bool true) ∧ Below w.heap.size w w' := by
  by_cases hbig : 300 < k
  · clear hz
    go_enter Yba.func4, Yba.ntmps4
    go_wp2_with fail
    go_ret
    exact ⟨rfl, Below.refl _ _⟩
  · have hk3 : k ≤ 300 := by omega
    have hnb : ¬ ((300 : Int) < (k : Int)) := by omega
    have HZ := hid hz
    clear hz
    obtain ⟨n, hn⟩ : ∃ n : Nat, n = n0 % 600 := ⟨_, rfl⟩
    have hnn : ((n0 : Int) % 600) = (n : Int) := by omega
    have hn6 : n ≤ 600 := by omega
    clear hn
    obtain ⟨l, hl⟩ : ∃ l : Nat → Nat, ∀ j, l j = Z j % 40 := ⟨fun j => Z j % 40, fun _ => rfl⟩
    have HLF := hid hl
    clear hl
    have mk1 := make_recs k hk3
    have mk2 := make_times k hk3
    go_enter Yba.func4, Yba.ntmps4
    go_upto_region 6 with fail
    refine (fill_any w.heap.size lo lh lr (Rfun true true) _ (runner_row w true true) h1 h2 h3).mono ?_
    rintro e W ⟨rfl, fs⟩
    have e1 : (w.alloc (.cells (Rcells true true) 39)).heap.size = w.heap.size + 1 := by simp
    rw [e1] at fs
    have B0 := hid (bs_start h1 h2 h3 fs)
    have x2 : R20 (Rfun true true) (w.heap.size + 1) lo lh lr 2 = .bool true := rfl
    have x19 : R20 (Rfun true true) (w.heap.size + 1) lo lh lr 19 = .slice none 0 0 := rfl
    have hW1 : w.heap.size < W.heap.size := by have := fs.size; omega
    have X2 := hid x2
    have X19 := hid x19
    clear fs e1 x2 x19
    go_upto_if 47 with fail
    go_cut [] from 48 to 52 (fun wx => Bz w W.heap.size k true l wx)
    case first =>
      obtain ⟨b1, ⟨RF, hrf⟩, t1⟩ := bs_recs B0.out k
      by_cases hk0 : k = 0
      · subst hk0
        have Y := hid (bi_none (l := l) (A := fun _ _ => ⟨0, 0, none⟩) b1 hrf t1)
        clear b1 hrf t1
        go_wp2_with fail
        go_meet
        case rel => exact ⟨_, _, _, _, _, _, Y.out, X19.out, X2.out⟩
      · have hkp : (0 : Int) < (k : Int) := by omega
        have Y : Hid (∃ tag' TF, Bi w w.heap.size (upd (R20 (Rfun true true) (w.heap.size + 1) lo lh lr) 19 (.slice (some ⟨W.heap.size + 1, 0, none⟩) k k)) W.heap.size k (some ⟨W.heap.size + 1, 0, none⟩) l 0 (((W.setCell ⟨w.heap.size, 19, none⟩ (.slice (some ⟨W.heap.size + 1, 0, none⟩) k k)).alloc (Rrw k)).alloc (Trw k)) tag' TF RF (fun _ _ => ⟨0, 0, none⟩)) := by
          have q := bi_zero (l := l) (A := fun _ _ => ⟨0, 0, none⟩) b1 hrf t1 (Nat.le_refl _) (by omega) hk3
          have ea : (W.alloc (Rrw k)).heap.size = W.heap.size + 1 := by simp
          rw [ea, World.setCell_alloc_past _ _ _ _ hW1] at q
          exact q
        have c19 := b1.row.cell (i := 19) (by omega)
        have f19 := b1.row.frozen 19
        clear b1 hrf t1
        go_wp2_with fail
        go_meet
        case rel =>
          obtain ⟨tag9, TF9, y⟩ := Y.out
          exact ⟨_, _, _, _, _, _, y, upd_same _ _ _, X2.out⟩
    case rest =>
      clear B0 X2 X19 mk1 mk2
      obtain ⟨R, tm, tag, TF, RF, A, hb, r19, r2⟩ := hcut
      have Y0 := hid hb
      have X19 := hid r19
      have X2 := hid r2
      clear hb r19 r2
      go_upto_region 11 with fail
      go_loopw [17] (fun si wr => ∃ (i : Nat) (tag' : Nat → Nat) (TF' RF' : Nat → Value) (A' : Nat → Nat → Addr), i ≤ k ∧ si = .int .i64 i ∧ Bi w w.heap.size R W.heap.size k tm l i wr tag' TF' RF' A') (fun si _ => k - (intOf si).toNat)
      case atStart => exact ⟨0, _, _, _, _, Nat.zero_le _, rfl, Y0.out⟩
      case round =>
        clear Y0
        obtain ⟨i, tag1, TF1, RF1, A1, hi, rfl, L⟩ := hrel
        have q := L.bs.row
        have b4 := q.lt
        have y19 := q.cell (i := 19) (by omega)
        rw [X19.out] at y19
        by_cases hlt : i < k
        · obtain ⟨zb, zo, rfl, zl, zc, z255⟩ := HZ.out i hlt
          have zc' : wr.cell? ⟨zb, zo + i, none⟩ = some (.int .u8 (Z i)) := (World.cell?_of_block (L.bs.bel.block zb zl)).trans zc
          have zl' : zb < wr.heap.size := Nat.lt_of_lt_of_le zl L.bs.bel.size
          have hmm : ((Z i : Int) % 40) = (l i : Int) := by have := HLF.out i; omega
          have hm40 : l i ≤ 39 := by have := HLF.out i; omega
          obtain ⟨gt, rfl, lt, d0, fz0⟩ := L.times.cell (j := i * 6) (by omega)
          have HL := hid L
          have ec1 : ((l i + 1 : Nat) : Int) = (l i : Int) + 1 := by omega
          have ec2 : ((l i + 2 : Nat) : Int) = (l i : Int) + 2 := by omega
          have mk3 := make_anys (l i + 1) (by omega)
          simp only [ec1] at mk3
          have hc := procs_any (1000 * ((i : Int) + 1)) (l i) (l i + 2) wr (by omega) (by omega) (by omega) (by omega)
          rw [ec2] at hc
          have HC := hid hc
          clear L q zc hc ec1 ec2
          go_wp2_with fail
          refine HC.out.mono ?_
          rintro e W1 ⟨Ai, rfl, p1, p2, p3, p4⟩
          have M := hid (bm_start (d := l i + 1) HL.out (by omega) (by omega) p1 p2 p3 p4)
          have rw1 := HL.out.recs.of_block (p3.block _ HL.out.recs.lt)
          have r0 := rw1.cell (i := i) hlt
          have rz := rw1.frozen i
          have rl := rw1.lt
          clear HL HC p1 p2 p3 rw1 zc' zl' y19 b4
          go_upto_region 17 with fail
          refine wp_gen (fun W2 => ∃ tag' RF', Bm w w.heap.size R W.heap.size k (some ⟨gt, 0, none⟩) l i wr.heap.size (l i + 2) W1.heap.size (l i + 1) W2 tag' TF1 RF' A1 Ai) ?_ ?_
          · exact M.out
          clear M r0 rz rl p4
          rintro W2 ⟨tag2, RF2, bm⟩
          go_upto_region 18 with fail
          go_loopw [83] (fun si w3 => ∃ (q : Nat), q ≤ l i + 1 ∧ si = .int .i64 q ∧ Bm w w.heap.size R W.heap.size k (some ⟨gt, 0, none⟩) l i wr.heap.size (l i + 2) W1.heap.size (l i + 1) w3 tag2 TF1 RF2 A1 Ai) (fun si _ => l i + 1 - (intOf si).toNat)
          case atStart => exact ⟨0, Nat.zero_le _, rfl, bm⟩
          case round =>
            clear bm
            obtain ⟨q, hq, rfl, bm⟩ := hrel
            by_cases hq2 : q < l i + 1
            · obtain ⟨f, hf⟩ := bm.s
              have s0 := hf.cell (i := q) hq2
              have s1 := hf.frozen q
              have s2 := hf.lt
              have hq3 : (q : Int) < (l i : Int) + 1 := by omega
              have BM := hid bm
              clear bm hf
              go_wp2_with fail
              go_roundw
              case rel => exact ⟨q + 1, by omega, by go_num, BM.out.put (by omega) q _⟩
              case measure => simp [intOf]; omega
            · obtain rfl : q = l i + 1 := by omega
              have D := hid (bm.done hlt hk3 (by omega))
              have rr := bm.bi.bs.row
              have b4 := rr.lt
              have y19 := rr.cell (i := 19) (by omega)
              rw [X19.out] at y19
              obtain ⟨_, e9, lt0, d0, fz0⟩ := bm.bi.times.cell (j := i * 6) (by omega)
              obtain rfl : gt = _ := by simpa using e9
              obtain ⟨_, e8, _, d1, fz1⟩ := bm.bi.times.cell (j := i * 6 + 1) (by omega)
              obtain rfl : gt = _ := by simpa using e8
              obtain ⟨_, e7, _, d2, fz2⟩ := bm.bi.times.cell (j := i * 6 + 2) (by omega)
              obtain rfl : gt = _ := by simpa using e7
              have hgb : gt ≠ w.heap.size := fun e => by
                have t1 : tag2 gt = 2 := bm.bi.tt ⟨gt, 0, none⟩ rfl
                have t2 := bm.bi.bs.tbr
                rw [e] at t1
                omega
              have hbg : w.heap.size ≠ gt := fun e => hgb e.symm
              clear bm rr e9 e8 e7
              go_wp2_with fail
              go_roundw
              case rel =>
                obtain ⟨tag9, TF9, y⟩ := D.out
                exact ⟨i + 1, _, _, _, _, by omega, by go_num, y⟩
              case measure => simp [intOf]; omega
        · obtain rfl : i = k := by omega
          have P := hid (pre_of L (.cells #[.int .i64 n, .int .i64 T] 31) X19.out X2.out hk3)
          have HL := hid L
          clear L q y19 b4
          go_wp2_with fail
          refine (resize_shares w.heap.size n i T R _ tm TF1 l A1 _ hn6 P.out).mono ?_
          rintro e W5 ⟨rfl, tag5, R5', TF5, tao5, cap5, d⟩
          have E := hid (en_shares HL.out _ d)
          have OK := hid (ok_done HL.out.bs _ d (by omega))
          obtain ⟨g0, g1, g2⟩ := sys_done d
          clear P HL d
          go_wp2_with fail
          refine OK.out.mono ?_
          rintro e W6 ⟨rfl, hb6⟩
          have e6 := E.out.below hb6
          have E6 := hid e6
          have b6 := e6.row.lt
          have y19 := e6.row.cell (i := 19) (by omega)
          rw [e6.t19] at y19
          clear E OK g0 g1 g2 e6 hb6
          go_upto_region 30 with fail
          go_loopw [24] (fun si wr => ∃ (j : Nat), j ≤ i ∧ si = .int .i64 j ∧ En w w.heap.size W.heap.size i n l A1 tao5 cap5 R5' TF5 RF1 wr) (fun si _ => i - (intOf si).toNat)
          case atStart => exact ⟨0, Nat.zero_le _, rfl, E6.out⟩
          case round =>
            clear E6 b6 y19
            obtain ⟨j, hj, rfl, e7⟩ := hrel
            by_cases hj2 : j < i
            · have b6 := e7.row.lt
              have y19 := e7.row.cell (i := 19) (by omega)
              rw [e7.t19] at y19
              obtain ⟨gt, rfl, lt0, d0, _⟩ := e7.own.cell (j := j * 6) (by omega)
              obtain ⟨_, k1, _, d1, _⟩ := e7.own.cell (j := j * 6 + 1) (by omega)
              obtain rfl : gt = _ := by simpa using k1
              obtain ⟨_, k2, _, d2, _⟩ := e7.own.cell (j := j * 6 + 2) (by omega)
              obtain rfl : gt = _ := by simpa using k2
              have r0 := e7.recs.cell (i := j) hj2
              have rl := e7.recs.lt
              obtain ⟨pa, pc, sa, sc, ra, sb, t0, t1, t2, t3, op, os1, ora, hsb⟩ := e7.ent j hj2
              rw [t0] at d0
              rw [t1] at d1
              rw [t2] at d2
              rw [t3] at r0
              have s0 := hsb.cell (i := 0) (by omega)
              have sl := hsb.lt
              have hn2 : n ≤ 2000 := by omega
              have hl2 : l j ≤ 2000 := by have := HLF.out j; omega
              have OP := hid op
              have OS := hid os1
              have ORA := hid ora
              have E7 := hid e7
              clear e7 op os1 ora hsb k1 k2 t0 t1 t2 t3
              go_wp2_with fail
              go_quiet (first | (go_at_call 11; refine Calls.quiet_of (same_any pa ra n pc (l j) (l j) (A1 j) _ hn2 hl2 ?_ ?_); exact OP.out; exact ORA.out) | (go_at_call 12; refine Calls.quiet_of_same (nil_any sa n sc _ hn2 ?_); exact OS.out))
              go_wp2_with fail
              go_roundw
              case rel =>
                exact ⟨j + 1, by omega, by go_num, E7.out.below (below_drewN (Below.refl _ _) _)⟩
              case measure => simp [intOf]; omega
            · obtain rfl : j = i := by omega
              have bel := e7.bel
              clear e7
              go_wp2_with fail
              go_ret
              exact ⟨rfl, bel⟩
end Go.Proofs.Ybulkdejs
