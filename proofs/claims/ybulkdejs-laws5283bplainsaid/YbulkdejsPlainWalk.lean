/-
  THE WALK of 'LawS5283BPlain' (3).
-/
import Derived.Test.YbulkdejsEndP
import Derived.LaidEql
namespace Go.Proofs.Ybulkdejs
open Go.RowKit Go.Deep
set_option linter.unusedVariables false
set_option linter.unusedSimpArgs false

/-- Two equal pointers are not unequal. -/
theorem run_neq_ptr (a : Addr) (w : World) : (binOp .neq 56 (.pointer (some a)) (.pointer (some a))).run Yba.prog w = .ok (.bool false) w := by
  obtain ⟨j, hj, _⟩ := Option.map_eq_some_iff.1 (show (Yba.prog.info? 58).map (fun i => i.size) = some 1 by kernel_rfl)
  have h : ∀ d : Nat, (Op.equalIn (d + 1) 56 (.pointer (some a)) (.pointer (some a))).run Yba.prog w = .ok true w := fun d => by
    simp [Op.equalIn, run_underlying Yba.underlying56, typeInfo, sizeOf, run_sameAddr_same, hj]
  simp only [binOp]
  simp [Op.equal, Op.maxDepth, h 9999]

/-- The tables are made. -/
def BzP (w : World) (rb k : Nat) (W : World) : Prop := ∃ R tm tag TF RF, Pl.B2 w w.heap.size R rb k tm W tag TF RF ∧ R 19 = .slice tm k k ∧ R 2 = .bool false ∧ RF 0 = .slice none 0 0

set_option maxHeartbeats 4000000 in
set_option maxRecDepth 100000 in
theorem plain_any (n0 k0 l0 e0 l1 e1 lo lh lr : Nat) (T : Int) (w : World) (h0 : n0 ≤ 65535) (hT : (Lit.int .i64 T).wf = true) (hk0 : k0 ≤ 255) (hl0 : l0 ≤ 255) (he0 : e0 ≤ 255) (hl1 : l1 ≤ 255) (he1 : e1 ≤ 255) (h1 : lo ≤ 255) (h2 : lh ≤ 255) (h3 : lr ≤ 255) :
    Calls Yba.prog 3 #[.int .u16 n0, .int .i64 T, .int .u8 k0, .int .u8 l0, .int .u8 e0, .int .u8 l1, .int .u8 e1, .int .u8 lo, .int .u8 lh, .int .u8 lr] w fun e w' => e = .returned (.bool true) ∧ Below w.heap.size w w' := by
  obtain ⟨n, hn⟩ : ∃ n : Nat, n = n0 % 600 := ⟨_, rfl⟩
  have hnn : ((n0 : Int) % 600) = (n : Int) := by omega
  have hn6 : n ≤ 600 := by omega
  obtain ⟨k, hk⟩ : ∃ k : Nat, k = k0 % 3 := ⟨_, rfl⟩
  have hkk : ((k0 : Int) % 3) = (k : Int) := by omega
  have hk2 : k ≤ 2 := by omega
  have hk3 : k ≤ 300 := by omega
  obtain ⟨f0, hf0⟩ : ∃ k : Nat, k = e0 % 8 := ⟨_, rfl⟩
  have hff0 : ((e0 : Int) % 8) = (f0 : Int) := by omega
  have hf07 : f0 ≤ 7 := by omega
  obtain ⟨f1, hf1⟩ : ∃ k : Nat, k = e1 % 8 := ⟨_, rfl⟩
  have hff1 : ((e1 : Int) % 8) = (f1 : Int) := by omega
  have hf17 : f1 ≤ 7 := by omega
  clear hn hk hf0 hf1
  have mk2 := make_times k hk3
  go_enter Yba.func3, Yba.ntmps3
  go_upto_region 4 with fail
  refine (fill_any w.heap.size lo lh lr (Rfun false false) _ (runner_row w false false) h1 h2 h3).mono ?_
  rintro e W ⟨rfl, fs⟩
  have e1 : (w.alloc (.cells (Rcells false false) 39)).heap.size = w.heap.size + 1 := by simp
  rw [e1] at fs
  have B0 := hid (bs_start h1 h2 h3 fs)
  have x2 : R20 (Rfun false false) (w.heap.size + 1) lo lh lr 2 = .bool false := rfl
  have x19 : R20 (Rfun false false) (w.heap.size + 1) lo lh lr 19 = .slice none 0 0 := rfl
  have hW1 : w.heap.size < W.heap.size := by have := fs.size; omega
  have X2 := hid x2
  have X19 := hid x19
  clear fs e1 x2 x19
  go_upto_if 52 with fail
  simp only [hkk]
  go_cut [] from 53 to 57 (fun wx => BzP w W.heap.size k wx)
  case first =>
    obtain ⟨b1, hrf, t1⟩ := Pl.recs_row B0.out
    by_cases hk00 : k = 0
    · subst hk00
      have Y := hid (Pl.b2_none b1 hrf t1)
      clear b1 hrf t1
      go_wp2_with fail
      go_meet
      case rel => exact ⟨_, _, _, _, _, Y.out, X19.out, X2.out, rfl⟩
    · have hkp : (0 : Int) < (k : Int) := by omega
      have Y : Hid (∃ tag' TF, Pl.B2 w w.heap.size (upd (R20 (Rfun false false) (w.heap.size + 1) lo lh lr) 19 (.slice (some ⟨W.heap.size + 1, 0, none⟩) k k)) W.heap.size k (some ⟨W.heap.size + 1, 0, none⟩) (((W.setCell ⟨w.heap.size, 19, none⟩ (.slice (some ⟨W.heap.size + 1, 0, none⟩) k k)).alloc (.cells #[.slice none 0 0, .slice none 0 0] 42)).alloc (Trw k)) tag' TF (fun _ => .slice none 0 0)) := by
        have q := Pl.b2_zero b1 hrf t1 (Nat.le_refl _) (by omega) hk3
        have ea : (W.alloc (.cells #[.slice none 0 0, .slice none 0 0] 42)).heap.size = W.heap.size + 1 := by simp
        rw [ea, World.setCell_alloc_past _ _ _ _ hW1] at q
        exact q
      have c19 := b1.row.cell (i := 19) (by omega)
      have f19 := b1.row.frozen 19
      clear b1 hrf t1
      go_wp2_with fail
      go_meet
      case rel =>
        obtain ⟨tag9, TF9, y⟩ := Y.out
        exact ⟨_, _, _, _, _, y, upd_same _ _ _, X2.out, rfl⟩
  case rest =>
    clear B0 X2 X19 mk2
    obtain ⟨R, tm, tag, TF, RF, hb, r19, r2, hrf0⟩ := hcut
    have RZ := hid hrf0
    clear hrf0
    have X19 := hid r19
    have X2 := hid r2
    have Y := hid (Pl.bi_of (A := fun _ _ => ⟨0, 0, none⟩) hb l0 l1 f0 f1)
    clear hb r19 r2
    go_upto_region 10 with fail
    obtain ⟨l, hl⟩ : ∃ l : Nat → Nat, l = fun j => if j = 0 then l0 else l1 := ⟨_, rfl⟩
    obtain ⟨ev, hev⟩ : ∃ ev : Nat → Nat, ev = fun j => if j = 0 then f0 else f1 := ⟨_, rfl⟩
    have hl255 : ∀ j, l j ≤ 255 := fun j => by rw [hl]; dsimp only; split <;> omega
    have hev7 : ∀ j, ev j ≤ 7 := fun j => by rw [hev]; dsimp only; split <;> omega
    refine wp_gen (fun W2 => ∃ tag', Pl.Bi w w.heap.size R W.heap.size 42 wc.heap.size (wc.heap.size + 1) k ev tm l 0 W2 tag' TF RF (fun _ _ => ⟨0, 0, none⟩)) ?_ ?_
    · rw [hl, hev]; exact Y.out
    clear Y hl hev
    rintro W2 ⟨tag2, y2⟩
    have L255 := hid hl255
    have E7 := hid hev7
    clear hl255 hev7
    go_upto_region 11 with fail
    simp only [hkk, hff0, hff1]
    go_loopw [27] (fun si wr => ∃ (i : Nat) (tag' : Nat → Nat) (TF' RF' : Nat → Value) (A' : Nat → Nat → Addr), i ≤ k ∧ si = .int .i64 i ∧ Pl.Bi w w.heap.size R W.heap.size 42 wc.heap.size (wc.heap.size + 1) k ev tm l i wr tag' TF' RF' A' ∧ (i = 0 → RF' 0 = .slice none 0 0)) (fun si _ => k - (intOf si).toNat)
    case atStart => exact ⟨0, _, _, _, _, Nat.zero_le _, rfl, y2, fun _ => RZ.out⟩
    case round =>
      clear y2
      obtain ⟨i, tag1, TF1, RF1, A1, hi, rfl, L, hz0⟩ := hrel
      have HZ0 := hid hz0
      clear hz0
      by_cases hlt : i < k
      · have li := L255.out i
        have ei := E7.out i
        have lc := L.ls.cell (i := i) (by omega)
        have ll := L.ls.lt
        have ec := L.es.cell (i := i) (by omega)
        have el := L.es.lt
        obtain ⟨gt, rfl, lt, d0, fz0⟩ := L.times.cell (j := i * 6) (by omega)
        have HL := hid (L.drew (by omega))
        have ec2 : ((l i + ev i : Nat) : Int) = (l i : Int) + (ev i : Int) := by omega
        have mk3 := make_anys (l i + ev i) (by omega)
        simp only [ec2] at mk3
        have hc := procs_any (1000 * ((i : Int) + 1)) (l i) (l i + ev i) wr.drew (by omega) (by omega) (by omega) (by omega)
        rw [ec2] at hc
        have HC := hid hc
        have hi2 : i < 2 := by omega
        have hi2i : (i : Int) < 2 := by omega
        have hw1 : IntKind.i64.wrap ((i : Int) + 1) = (i : Int) + 1 := by rw [IntKind.wrap_i64]; omega
        have hw2 : IntKind.i64.wrap (1000 * ((i : Int) + 1)) = 1000 * ((i : Int) + 1) := by rw [IntKind.wrap_i64]; omega
        have hw3 : IntKind.i64.wrap ((l i : Int) + (ev i : Int)) = (l i : Int) + (ev i : Int) := by rw [IntKind.wrap_i64]; omega
        clear L hc ec2
        go_wp2_with fail
        have HS : wr.drew.cell? ⟨wc.heap.size, i, none⟩ = some (.int .i64 (l i)) ∧ wr.drew.cell? ⟨wc.heap.size + 1, i, none⟩ = some (.int .i64 (ev i)) := ⟨lc, ec⟩
        refine Until.begin (by kernel_rfl) (fun W => W.cell? ⟨wc.heap.size, i, none⟩ = some (.int .i64 (l i)) ∧ W.cell? ⟨wc.heap.size + 1, i, none⟩ = some (.int .i64 (ev i))) 18 ?_
        refine Until.takeWD (i := 0) (v := ?_) 76 rfl rfl (by kernel_rfl) (by kernel_rfl) (by kernel_rfl) rfl (fun _ _ _ h => h) (Or.inl ⟨by rfl, ?_⟩) (fun _ => HS) ?_
        rotate_left
        · intro w; go_simp; try with_reducible rfl
        simp only [List.setIfInBounds_toArray, List.set_cons_zero, List.set_cons_succ]
        refine Until.takeWD (i := 1) (v := ?_) 77 rfl rfl (by kernel_rfl) (by kernel_rfl) (by kernel_rfl) rfl (fun _ _ _ h => h) (Or.inl ⟨by rfl, ?_⟩) (fun _ => HS) ?_
        rotate_left
        · intro w; go_simp; try with_reducible rfl
        simp only [List.setIfInBounds_toArray, List.set_cons_zero, List.set_cons_succ]
        refine Until.takeWD (i := 2) (v := ?_) 78 rfl rfl (by kernel_rfl) (by kernel_rfl) (by kernel_rfl) rfl (fun _ _ _ h => h) (Or.inl ⟨by rfl, ?_⟩) (fun _ => HS) ?_
        rotate_left
        · intro w; go_simp; try with_reducible rfl
        simp only [List.setIfInBounds_toArray, List.set_cons_zero, List.set_cons_succ]
        refine Until.takeWD (i := 3) (v := ?_) 79 rfl rfl (by kernel_rfl) (by kernel_rfl) (by kernel_rfl) rfl (fun _ _ _ h => h) (Or.inl ⟨by rfl, ?_⟩) (fun _ => HS) ?_
        rotate_left
        · intro w; go_simp; try with_reducible rfl
        simp only [List.setIfInBounds_toArray, List.set_cons_zero, List.set_cons_succ]
        refine Until.takeWD (i := 4) (v := ?_) 80 rfl rfl (by kernel_rfl) (by kernel_rfl) (by kernel_rfl) rfl (fun _ _ _ h => h) (Or.inl ⟨by rfl, ?_⟩) (fun _ => HS) ?_
        rotate_left
        · intro w; go_simp; try with_reducible rfl
        simp only [List.setIfInBounds_toArray, List.set_cons_zero, List.set_cons_succ]
        refine Until.takeD (i := 5) (v := ?_) 81 rfl rfl (by kernel_rfl) (by kernel_rfl) (by kernel_rfl) (by kernel_rfl) (by kernel_rfl) (fun _ _ _ h => h) (Or.inl ⟨by rfl, ?_⟩) HS ?_
        rotate_left
        · intro w hSw; obtain ⟨s5, s18⟩ := hSw; go_simp; try with_reducible rfl
        simp only [List.setIfInBounds_toArray, List.set_cons_zero, List.set_cons_succ]
        refine Until.takeWD (i := 6) (v := ?_) 82 rfl rfl (by kernel_rfl) (by kernel_rfl) (by kernel_rfl) rfl (fun _ _ _ h => h) (Or.inl ⟨by rfl, ?_⟩) (fun _ => HS) ?_
        rotate_left
        · intro w; go_simp; try with_reducible rfl
        simp only [List.setIfInBounds_toArray, List.set_cons_zero, List.set_cons_succ]
        refine Until.takeWD (i := 7) (v := ?_) 83 rfl rfl (by kernel_rfl) (by kernel_rfl) (by kernel_rfl) rfl (fun _ _ _ h => h) (Or.inl ⟨by rfl, ?_⟩) (fun _ => HS) ?_
        rotate_left
        · intro w; go_simp; try with_reducible rfl
        simp only [List.setIfInBounds_toArray, List.set_cons_zero, List.set_cons_succ]
        refine Until.takeD (i := 8) (v := ?_) 84 rfl rfl (by kernel_rfl) (by kernel_rfl) (by kernel_rfl) (by kernel_rfl) (by kernel_rfl) (fun _ _ _ h => h) (Or.inl ⟨by rfl, ?_⟩) HS ?_
        rotate_left
        · intro w hSw; obtain ⟨s5, s18⟩ := hSw; go_simp; try with_reducible rfl
        simp only [List.setIfInBounds_toArray, List.set_cons_zero, List.set_cons_succ]
        refine Until.takeWD (i := 9) (v := ?_) 85 rfl rfl (by kernel_rfl) (by kernel_rfl) (by kernel_rfl) rfl (fun _ _ _ h => h) (Or.inl ⟨by rfl, ?_⟩) (fun _ => HS) ?_
        rotate_left
        · intro w; go_simp; try with_reducible rfl
        simp only [List.setIfInBounds_toArray, List.set_cons_zero, List.set_cons_succ]
        refine Until.takeWD (i := 10) (v := ?_) 86 rfl rfl (by kernel_rfl) (by kernel_rfl) (by kernel_rfl) rfl (fun _ _ _ h => h) (Or.inl ⟨by rfl, ?_⟩) (fun _ => HS) ?_
        rotate_left
        · intro w; go_simp; try with_reducible rfl
        simp only [List.setIfInBounds_toArray, List.set_cons_zero, List.set_cons_succ]
        refine Until.takeD (i := 11) (v := ?_) 87 rfl rfl (by kernel_rfl) (by kernel_rfl) (by kernel_rfl) (by kernel_rfl) (by kernel_rfl) (fun _ _ _ h => h) (Or.inl ⟨by rfl, ?_⟩) HS ?_
        rotate_left
        · intro w hSw; obtain ⟨s5, s18⟩ := hSw; go_simp; try with_reducible rfl
        simp only [List.setIfInBounds_toArray, List.set_cons_zero, List.set_cons_succ]
        refine Until.takeWD (i := 12) (v := ?_) 88 rfl rfl (by kernel_rfl) (by kernel_rfl) (by kernel_rfl) rfl (fun _ _ _ h => h) (Or.inl ⟨by rfl, ?_⟩) (fun _ => HS) ?_
        rotate_left
        · intro w; go_simp; try with_reducible rfl
        simp only [List.setIfInBounds_toArray, List.set_cons_zero, List.set_cons_succ]
        refine Until.one (i := 13) (by kernel_rfl) rfl (fun K hK => ?_)
        go_simp
        refine HC.out.mono ?_
        rintro e W1 ⟨Ai, rfl, p1, p2, p3, p4⟩
        have M := hid (Pl.bm_start (d := l i + ev i) HL.out (by omega) (by omega) p1 p2 p3 p4)
        have lc1 : W1.cell? ⟨wc.heap.size, i, none⟩ = some (.int .i64 (l i)) := (HL.out.ls.of_block (p3.block _ HL.out.ls.lt)).cell (by omega)
        have ec1 : W1.cell? ⟨wc.heap.size + 1, i, none⟩ = some (.int .i64 (ev i)) := (HL.out.es.of_block (p3.block _ HL.out.es.lt)).cell (by omega)
        have rw1 := HL.out.recs.of_block (p3.block _ HL.out.recs.lt)
        have r0 := rw1.cell (i := i) hi2
        have rz := rw1.frozen i
        have rl := rw1.lt
        have ll1 := (HL.out.ls.of_block (p3.block _ HL.out.ls.lt)).lt
        have el1 := (HL.out.es.of_block (p3.block _ HL.out.es.lt)).lt
        have nlr : wc.heap.size ≠ W.heap.size := fun e => by
          have t1 := HL.out.trb
          have t2 := HL.out.tls
          rw [e] at t2
          omega
        have ner : wc.heap.size + 1 ≠ W.heap.size := fun e => by
          have t1 := HL.out.trb
          have t2 := HL.out.tes
          rw [e] at t2
          omega
        clear HS
        have HS : W1.cell? ⟨wc.heap.size, i, none⟩ = some (.int .i64 (l i)) ∧ W1.cell? ⟨wc.heap.size + 1, i, none⟩ = some (.int .i64 (ev i)) := ⟨lc1, ec1⟩
        dsimp only
        refine hK.out _ _ (fun _ => HS) ?_
        clear hK K HL HC p1 p2 p3 rw1 lc ec
        refine Until.takeWD (i := 14) (v := ?_) 75 rfl rfl (by kernel_rfl) (by kernel_rfl) (by kernel_rfl) rfl (fun _ _ _ h => h) (Or.inl ⟨by rfl, ?_⟩) (fun _ => HS) ?_
        rotate_left
        · intro w; go_simp; try with_reducible rfl
        simp only [List.setIfInBounds_toArray, List.set_cons_zero, List.set_cons_succ]
        refine Until.takeWD (i := 15) (v := ?_) 90 rfl rfl (by kernel_rfl) (by kernel_rfl) (by kernel_rfl) rfl (fun _ _ _ h => h) (Or.inl ⟨by rfl, ?_⟩) (fun _ => HS) ?_
        rotate_left
        · intro w; go_simp; try with_reducible rfl
        simp only [List.setIfInBounds_toArray, List.set_cons_zero, List.set_cons_succ]
        refine Until.takeWD (i := 16) (v := ?_) 91 rfl rfl (by kernel_rfl) (by kernel_rfl) (by kernel_rfl) rfl (fun _ _ _ h => h) (Or.inl ⟨by rfl, ?_⟩) (fun _ => HS) ?_
        rotate_left
        · intro w; go_simp; try with_reducible rfl
        simp only [List.setIfInBounds_toArray, List.set_cons_zero, List.set_cons_succ]
        refine Until.takeWD (i := 17) (v := ?_) 28 rfl rfl (by kernel_rfl) (by kernel_rfl) (by kernel_rfl) rfl (fun _ _ _ h => h) (Or.inl ⟨by rfl, ?_⟩) (fun _ => HS) ?_
        rotate_left
        · intro w; go_simp; try with_reducible rfl
        simp only [List.setIfInBounds_toArray, List.set_cons_zero, List.set_cons_succ]
        refine Until.one (i := 18) (by kernel_rfl) rfl (fun K hK => ?_)
        go_simp
        refine hK.out _ _ (fun h => by cases h) ?_
        clear hK K
        refine Until.done (by kernel_rfl) ?_ _
        go_wp2_with fail
        go_region
        go_upto_region 17 with fail
        refine wp_gen (fun W3 => ∃ tag' RF', Pl.Bm w w.heap.size R W.heap.size 42 wc.heap.size (wc.heap.size + 1) k ev (some ⟨gt, 0, none⟩) l i wr.heap.size (l i + ev i) W1.heap.size (l i + ev i) W3 tag' TF1 RF' A1 Ai) ?_ ?_
        · obtain ⟨tag9, RF9, m9⟩ := M.out
          exact ⟨_, _, m9.drew (by omega)⟩
        clear M r0 rz rl p4 lc1 ec1 HS mk3 ll1 el1 ll el lt d0 fz0
        rintro W3 ⟨tag3, RF3, bm⟩
        go_loopw [105] (fun si w3 => ∃ (q : Nat), q ≤ l i + ev i ∧ si = .int .i64 q ∧ Pl.Bm w w.heap.size R W.heap.size 42 wc.heap.size (wc.heap.size + 1) k ev (some ⟨gt, 0, none⟩) l i wr.heap.size (l i + ev i) W1.heap.size (l i + ev i) w3 tag3 TF1 RF3 A1 Ai) (fun si _ => l i + ev i - (intOf si).toNat)
        case atStart => exact ⟨0, Nat.zero_le _, rfl, bm⟩
        case round =>
          clear bm
          obtain ⟨q, hq, rfl, bm⟩ := hrel
          by_cases hq2 : q < l i + ev i
          · obtain ⟨f, hf⟩ := bm.s
            have s0 := hf.cell (i := q) hq2
            have s1 := hf.frozen q
            have s2 := hf.lt
            have hq3 : (q : Int) < (l i : Int) + (ev i : Int) := by omega
            have BM := hid bm
            clear bm hf
            go_wp2_with fail
            go_roundw
            case rel => exact ⟨q + 1, by omega, by go_num, BM.out.put (by omega) q _⟩
            case measure => simp [intOf]; omega
          · obtain rfl : q = l i + ev i := by omega
            have D := hid (bm.done hlt hk3 (by omega))
            have rr := bm.bi.bs.row
            have b4 := rr.lt
            have y19 := rr.cell (i := 19) (by omega)
            rw [X19.out] at y19
            obtain ⟨_, e9, lt0, d0, fz0⟩ := bm.bi.times.cell (j := i * 6) (by omega)
            obtain rfl : gt = _ := by simpa using e9
            obtain ⟨_, e8, _, d1, fz1⟩ := bm.bi.times.cell (j := i * 6 + 1) (by omega)
            obtain rfl : gt = _ := by simpa using e8
            obtain ⟨_, e7, _, d2, fz2⟩ := bm.bi.times.cell (j := i * 6 + 2) (by omega)
            obtain rfl : gt = _ := by simpa using e7
            have hgb : gt ≠ w.heap.size := fun e => by
              have t1 : tag3 gt = 2 := bm.bi.tt ⟨gt, 0, none⟩ rfl
              have t2 := bm.bi.bs.tbr
              rw [e] at t1
              omega
            have hbg : w.heap.size ≠ gt := fun e => hgb e.symm
            clear bm rr e9 e8 e7
            go_wp2_with fail
            go_roundw
            case rel =>
              obtain ⟨tag9, TF9, y⟩ := D.out
              exact ⟨i + 1, _, _, _, _, by omega, by go_num, y, fun h => by omega⟩
            case measure => simp [intOf]; omega
      · obtain rfl : i = k := by omega
        have P := hid (Pl.pre_of L (.cells #[.int .i64 n, .int .i64 T] 31) X19.out X2.out hk3)
        have HL := hid L
        clear L
        go_wp2_with fail
        refine (resize_plain w.heap.size n i T R _ tm TF1 l A1 _ hn6 hk2 P.out).mono ?_
        rintro e W5 ⟨rfl, tag5, R5', TF5, tao5, cap5, d, hsame⟩
        have E := hid (Pl.en_plain HL.out HZ0.out _ d hsame)
        have OK := hid (ok_done HL.out.bs _ d (by omega))
        obtain ⟨g0, g1, g2⟩ := sys_done d
        clear P HL d hsame
        go_wp2_with fail
        refine OK.out.mono ?_
        rintro e W6 ⟨rfl, hb6⟩
        have e6 := E.out.below hb6
        have E6 := hid e6
        have b6 := e6.row.lt
        have y19 := e6.row.cell (i := 19) (by omega)
        rw [e6.t19] at y19
        clear E OK g0 g1 g2 e6 hb6
        go_upto_region 29 with fail
        have hz2 : l2 i l 0 ≤ 2000 := by
          unfold l2
          split
          · have := L255.out 0; omega
          · omega
        go_loopw [33] (fun si wr => ∃ (j : Nat), j ≤ 2 ∧ si = .int .i64 j ∧ Pl.En w w.heap.size W.heap.size i n (l2 i l 0) (A1 0) tao5 cap5 R5' TF5 RF1 wr) (fun si _ => 2 - (intOf si).toNat)
        case atStart => exact ⟨0, Nat.zero_le _, rfl, E6.out⟩
        case round =>
          clear E6 b6 y19
          obtain ⟨j, hj, rfl, e7⟩ := hrel
          have hn2 : n ≤ 2000 := by omega
          have b6 := e7.row.lt
          have y19 := e7.row.cell (i := 19) (by omega)
          rw [e7.t19] at y19
          by_cases hj2 : j < 2
          · obtain ⟨gt, rfl, lt0, d0, _⟩ := e7.own.cell (j := j * 6) (by omega)
            obtain ⟨_, k1, _, d1, _⟩ := e7.own.cell (j := j * 6 + 1) (by omega)
            obtain rfl : gt = _ := by simpa using k1
            obtain ⟨_, k2, _, d2, _⟩ := e7.own.cell (j := j * 6 + 2) (by omega)
            obtain rfl : gt = _ := by simpa using k2
            have r0 := e7.recs.cell (i := 0) (by omega)
            have rl := e7.recs.lt
            obtain ⟨ra, t3, ora⟩ := e7.rec0
            obtain ⟨pa, pc, sa, sc, t0, t1, op, os1⟩ := e7.ent j hj2
            rw [t0] at d0
            rw [t1] at d1
            rw [t3] at r0
            have hj2i : (j : Int) < 2 := by omega
            have OP := hid op
            have OS := hid os1
            have ORA := hid ora
            have E7b := hid e7
            by_cases hjk : j < i
            · obtain ⟨sb, t2, hsb⟩ := e7.snd j hj2 hjk
              rw [t2] at d2
              have s0 := hsb.cell (i := 0) (by omega)
              have sl := hsb.lt
              clear e7 op os1 ora hsb k1 k2 t0 t1 t2 t3
              go_wp2_with fail
              go_quiet (first | (go_at_call 11; refine Calls.quiet_of (same_any pa ra n pc (l2 i l 0) (l2 i l 0) (A1 0) _ hn2 hz2 ?_ ?_); exact OP.out; exact ORA.out) | (go_at_call 12; refine Calls.quiet_of_same (nil_any sa n sc _ hn2 ?_); exact OS.out))
              go_wp2_with fail
              go_roundw
              case rel => exact ⟨j + 1, by omega, by go_num, E7b.out.below (below_drewN (Below.refl _ _) _)⟩
              case measure => simp [intOf]; omega
            · have t2 := e7.nosnd j hj2 (by omega)
              rw [t2] at d2
              clear e7 op os1 ora k1 k2 t0 t1 t2 t3
              go_wp2_with fail
              go_quiet (first | (go_at_call 11; refine Calls.quiet_of (same_any pa ra n pc (l2 i l 0) (l2 i l 0) (A1 0) _ hn2 hz2 ?_ ?_); exact OP.out; exact ORA.out) | (go_at_call 12; refine Calls.quiet_of_same (nil_any sa n sc _ hn2 ?_); exact OS.out))
              go_wp2_with fail
              go_roundw
              case rel => exact ⟨j + 1, by omega, by go_num, E7b.out.below (below_drewN (Below.refl _ _) _)⟩
              case measure => simp [intOf]; omega
          · obtain rfl : j = 2 := by omega
            have bel := e7.bel
            obtain ⟨gt, rfl, lt0, d0, _⟩ := e7.own.cell (j := 0) (by omega)
            obtain ⟨_, k1, _, d1, _⟩ := e7.own.cell (j := 6) (by omega)
            obtain rfl : gt = _ := by simpa using k1
            obtain ⟨pa, pc, sa, sc, t0, t1, op, os1⟩ := e7.ent 0 (by omega)
            have t0' : TF5 0 = .slice pa n pc := t0
            rw [t0'] at d0
            rw [e7.same, t0'] at d1
            by_cases hn0 : n = 0
            · subst hn0
              clear e7 k1 t0 t1 op os1 t0'
              go_wp2_with fail
              go_quiet (fail)
              go_wp2_with fail
              go_ret
              exact ⟨rfl, below_drewN bel _⟩
            · obtain ⟨gp, rfl, lp, dp, _⟩ := op.cell (j := 0) (by omega)
              have hnp : (0 : Int) < (n : Int) := by omega
              have hnq : 0 < n := by omega
              have hd1 : decide ((0 : Int) < (n : Int)) = true := decide_eq_true hnp
              have hd2 : decide (0 < n) = true := decide_eq_true hnq
              clear e7 k1 t0 t1 op os1 t0'
              have hq := run_neq_ptr ⟨gp, 0, none⟩
              go_wp2_with fail
              go_quiet (fail)
              go_wp2_with fail
              go_ret
              exact ⟨rfl, below_drewN bel _⟩
end Go.Proofs.Ybulkdejs
