/-
  THE WALK of 'zzs5283bfill' (7).
-/
import Derived.Test.YbulkdejsProcs
import Derived.Deep.Cut
namespace Go.Proofs.Ybulkdejs
open Go.RowKit Go.Deep
set_option linter.unusedVariables false
set_option linter.unusedSimpArgs false

theorem Yba.info3f : (Yba.prog.info? 3).map (fun i => (i.zero, i.size, i.bytes)) = some (some (.int .i64 0), 1, 8) := by kernel_rfl
def Irw (n : Nat) : Obj := .cells (madeCells #[.int .i64 0] n) 3
def Arw (n : Nat) : Obj := .cells (madeCells #[.nilIface] n) 20
def Orw (n : Nat) : Obj := .cells (madeCells #[.bool false, .bool false, .int .i64 0, .int .i64 0] (n * 4)) 82
theorem make_ints (n : Nat) (hn : n ≤ 2000) (w : World) : (Instr.makeSlice 26 (.int .i64 (n : Int)) (.int .i64 (n : Int))).run Yba.prog w = .ok (.slice (some ⟨w.heap.size, 0, none⟩) n n) (w.alloc (Irw n)) :=
  run_make_row' (P := Yba.prog) 26 3 (.int .i64 0) 8 Yba.underlying26 Yba.info3f rfl .i64 .i64 n (by omega) (by omega) w
theorem make_anys (n : Nat) (hn : n ≤ 2000) (w : World) : (Instr.makeSlice 37 (.int .i64 (n : Int)) (.int .i64 (n : Int))).run Yba.prog w = .ok (.slice (some ⟨w.heap.size, 0, none⟩) n n) (w.alloc (Arw n)) :=
  run_make_row' (P := Yba.prog) 37 20 .nilIface 16 Yba.underlying37 Yba.info20 rfl .i64 .i64 n (by omega) (by omega) w
theorem make_outs (n : Nat) (hn : n ≤ 2000) (w : World) : (Instr.makeSlice 27 (.int .i64 (n : Int)) (.int .i64 (n : Int))).run Yba.prog w = .ok (.slice (some ⟨w.heap.size, 0, none⟩) n n) (w.alloc (Orw n)) := by
  obtain ⟨i, hi, hz0, hz1, hz2⟩ := info_parts Yba.info82
  have hr := run_make (P := Yba.prog) w 27 82 i _ Yba.underlying27 hi hz0 .i64 .i64 (n : Int) (n : Int) (by omega) (by omega) (by rw [hz2]; omega) (by omega)
  simp only [Int.toNat_natCast, hz1] at hr
  exact hr

/-- A table of the runner: a slice over a row of its own, every cell known to be there. -/
def Tab (w : World) (e size : Nat) (v : Value) (ao : Option Addr) (cap : Nat) : Prop := ∃ m f, m ≤ cap ∧ v = .slice ao m cap ∧ Own w e size ao cap cap f

/-- The world by a name, and what is known of it. -/
theorem wp_gen {P : Program} {c : Code} {Q : Exit → Act → World → Prop} {a : Act} {w : World} (p : World → Prop) (hw : p w) (h : ∀ W, p W → c.wp P Q a W) : c.wp P Q a w := h w hw

def upd (R : Nat → Value) (k : Nat) (v : Value) : Nat → Value := fun j => if j = k then v else R j
theorem upd_same (R : Nat → Value) (k : Nat) (v : Value) : upd R k v k = v := if_pos rfl
theorem upd_other {R : Nat → Value} {k j : Nat} (v : Value) (h : j ≠ k) : upd R k v j = R j := if_neg h

/-- The runner's block holds R; every other old block is as it was. -/
structure RunAt (w : World) (br : Nat) (R : Nat → Value) (W : World) : Prop where
  row : W.rowIs br 39 23 R
  os : W.os = w.os
  tape : W.tape = w.tape
  output : W.output = w.output
  size : w.heap.size ≤ W.heap.size
  block : ∀ k, k < w.heap.size → k ≠ br → W.heap[k]? = w.heap[k]?

namespace RunAt
variable {w W W' : World} {br : Nat} {R : Nat → Value}
theorem start (h : w.rowIs br 39 23 R) : RunAt w br R w := ⟨h, rfl, rfl, rfl, Nat.le_refl _, fun _ _ _ => rfl⟩
theorem set (h : RunAt w br R W) (k : Nat) (v : Value) : RunAt w br (upd R k v) (W.setCell ⟨br, k, none⟩ v) :=
  ⟨h.row.set k v, h.os, h.tape, h.output, by simpa using h.size, fun j hj hne => (Below.heap_setCell _ _ _ _ (by exact hne)).trans (h.block j hj hne)⟩
theorem alloc (h : RunAt w br R W) (o : Obj) : RunAt w br R (W.alloc o) :=
  ⟨h.row.alloc o, h.os, h.tape, h.output, by have := h.size; simp; omega, fun j hj hne => (Below.heap_alloc _ _ _ (Nat.lt_of_lt_of_le hj h.size)).trans (h.block j hj hne)⟩
/-- A world in which all up to B is as it was. -/
theorem below (h : RunAt w br R W) {B : Nat} (hb : Below B W W') (h1 : br < B) (h2 : w.heap.size ≤ B) : RunAt w br R W' :=
  ⟨h.row.of_block (hb.block _ h1), hb.os.trans h.os, hb.tape.trans h.tape, hb.output.trans h.output, Nat.le_trans h.size hb.size, fun j hj hne => (hb.block _ (by omega)).trans (h.block j hj hne)⟩
end RunAt

/-- Three blocks of numbers that 'fill' lays. -/
structure Nums (g : Nat) (W : World) : Prop where
  m : W.rowIs g 3 2 (fun j => .int .i64 ((j : Int) + 1))
  p : W.rowIs (g + 1) 3 1 (fun _ => .int .i64 9)

theorem nums_start (W : World) : Nums W.heap.size ((W.alloc (.cells #[.int .i64 1, .int .i64 2] 3)).alloc (.cells #[.int .i64 9] 3)) := by
  refine ⟨(World.rowIs_alloc W #[.int .i64 1, .int .i64 2] 3 _ fun i hi => ?_).alloc _, ?_⟩
  · match i, hi with
    | 0, _ => rfl
    | 1, _ => rfl
  · have h := World.rowIs_alloc (W.alloc (.cells #[.int .i64 1, .int .i64 2] 3)) #[.int .i64 9] 3 (fun _ => .int .i64 9) fun i hi => by
      match i, hi with
      | 0, _ => rfl
    simpa using h


theorem Nums.of_block {g : Nat} {W W' : World} (h : Nums g W) (h1 : W'.heap[g]? = W.heap[g]?) (h2 : W'.heap[g + 1]? = W.heap[g + 1]?) : Nums g W' := ⟨h.m.of_block h1, h.p.of_block h2⟩

theorem three_row (W : World) : (W.alloc (.cells #[.int .i64 3] 3)).rowIs W.heap.size 3 1 (fun _ => .int .i64 3) :=
  World.rowIs_alloc W #[.int .i64 3] 3 _ fun i hi => by
    match i, hi with
    | 0, _ => rfl

theorem made_row (W : World) (z : Array Value) (n e : Nat) (hz : 0 < z.size) : ∃ f, (W.alloc (.cells (madeCells z n) e)).rowIs W.heap.size e n f :=
  ⟨fun i => z[i % z.size]!, _, blk_alloc_new _ _, size_madeCells _ _, fun i hi => by simp [madeCells, hi]⟩

/-- What 'fill' has laid so far: k blocks from B (the heap's size when it was called) on. -/
structure FS (w : World) (br B lo lh lr : Nat) (R : Nat → Value) (k : Nat) (W : World) : Prop where
  run : RunAt w br R W
  nums : Nums B W
  i : W.rowIs (B + 2) 3 1 (fun _ => .int .i64 3)
  o : 3 < k → ∃ f, W.rowIs (B + 3) 82 (lo * 4) f
  h : 4 < k → ∃ f, W.rowIs (B + 4) 3 lh f
  v : 5 < k → ∃ f, W.rowIs (B + 5) 20 lr f
  size : W.heap.size = B + k
  base : w.heap.size = B
  br : br < B

namespace FS
variable {w W : World} {br B lo lh lr k : Nat} {R : Nat → Value}
theorem set (h : FS w br B lo lh lr R k W) (c : Nat) (v : Value) : FS w br B lo lh lr (upd R c v) k (W.setCell ⟨br, c, none⟩ v) := by
  have hb := h.br
  refine ⟨h.run.set c v, h.nums.of_block (blk_setCell_other _ _ _ _ (by dsimp only; omega)) (blk_setCell_other _ _ _ _ (by dsimp only; omega)), h.i.setOther (by dsimp only; omega) _, fun hk => ?_, fun hk => ?_, fun hk => ?_, by simpa using h.size, h.base, hb⟩
  · obtain ⟨f, hf⟩ := h.o hk; exact ⟨f, hf.setOther (by dsimp only; omega) _⟩
  · obtain ⟨f, hf⟩ := h.h hk; exact ⟨f, hf.setOther (by dsimp only; omega) _⟩
  · obtain ⟨f, hf⟩ := h.v hk; exact ⟨f, hf.setOther (by dsimp only; omega) _⟩
/-- A store into one of the three tables. -/
theorem put (h : FS w br B lo lh lr R k W) {g : Nat} (hg : g = B + 3 ∨ g = B + 4 ∨ g = B + 5) (c : Nat) (v : Value) : FS w br B lo lh lr R k (W.setCell ⟨g, c, none⟩ v) := by
  have hb := h.br
  have hs := h.base
  refine ⟨⟨h.run.row.setOther (by dsimp only; omega) _, h.run.os, h.run.tape, h.run.output, by simpa using h.run.size, fun j hj hne => (Below.heap_setCell _ _ _ _ (by dsimp only; omega)).trans (h.run.block j hj hne)⟩, h.nums.of_block (blk_setCell_other _ _ _ _ (by dsimp only; omega)) (blk_setCell_other _ _ _ _ (by dsimp only; omega)), h.i.setOther (by dsimp only; omega) _, fun hk => ?_, fun hk => ?_, fun hk => ?_, by simpa using h.size, hs, hb⟩
  · obtain ⟨f, hf⟩ := h.o hk
    by_cases e : B + 3 = g
    · subst e; exact ⟨_, hf.set c v⟩
    · exact ⟨f, hf.setOther e _⟩
  · obtain ⟨f, hf⟩ := h.h hk
    by_cases e : B + 4 = g
    · subst e; exact ⟨_, hf.set c v⟩
    · exact ⟨f, hf.setOther e _⟩
  · obtain ⟨f, hf⟩ := h.v hk
    by_cases e : B + 5 = g
    · subst e; exact ⟨_, hf.set c v⟩
    · exact ⟨f, hf.setOther e _⟩
theorem outs (h : FS w br B lo lh lr R 3 W) : FS w br B lo lh lr R 4 (W.alloc (Orw lo)) := by
  refine ⟨h.run.alloc _, h.nums.of_block (blk_alloc_lt _ _ _ h.nums.m.lt) (blk_alloc_lt _ _ _ h.nums.p.lt), h.i.alloc _, fun _ => ?_, fun hk => by omega, fun hk => by omega, by have := h.size; simp; omega, h.base, h.br⟩
  have := made_row W #[.bool false, .bool false, .int .i64 0, .int .i64 0] (lo * 4) 82 (by simp)
  rw [h.size] at this
  exact this
theorem ints (h : FS w br B lo lh lr R 4 W) : FS w br B lo lh lr R 5 (W.alloc (Irw lh)) := by
  refine ⟨h.run.alloc _, h.nums.of_block (blk_alloc_lt _ _ _ h.nums.m.lt) (blk_alloc_lt _ _ _ h.nums.p.lt), h.i.alloc _, fun hk => ?_, fun hk => ?_, fun hk => by omega, by have := h.size; simp; omega, h.base, h.br⟩
  · obtain ⟨f, hf⟩ := h.o (by omega); exact ⟨f, hf.alloc _⟩
  · have := made_row W #[.int .i64 0] lh 3 (by simp)
    rw [h.size] at this
    exact this
theorem anys (h : FS w br B lo lh lr R 5 W) : FS w br B lo lh lr R 6 (W.alloc (Arw lr)) := by
  refine ⟨h.run.alloc _, h.nums.of_block (blk_alloc_lt _ _ _ h.nums.m.lt) (blk_alloc_lt _ _ _ h.nums.p.lt), h.i.alloc _, fun hk => ?_, fun hk => ?_, fun hk => ?_, by have := h.size; simp; omega, h.base, h.br⟩
  · obtain ⟨f, hf⟩ := h.o (by omega); exact ⟨f, hf.alloc _⟩
  · obtain ⟨f, hf⟩ := h.h (by omega); exact ⟨f, hf.alloc _⟩
  · have := made_row W #[.nilIface] lr 20 (by simp)
    rw [h.size] at this
    exact this
end FS

def R4 (R : Nat → Value) (B : Nat) : Nat → Value := upd (upd (upd (upd R 22 (.int .i64 42)) 21 (.slice (some ⟨B, 0, none⟩) 2 2)) 9 (.slice (some ⟨B + 1, 0, none⟩) 1 1)) 4 (.slice (some ⟨B + 2, 0, none⟩) 1 1)
def R5 (R : Nat → Value) (B lo : Nat) : Nat → Value := upd (R4 R B) 5 (.slice (some ⟨B + 3, 0, none⟩) lo lo)
def R18 (R : Nat → Value) (B lo lh : Nat) : Nat → Value := upd (R5 R B lo) 18 (.slice (some ⟨B + 4, 0, none⟩) lh lh)
def R20 (R : Nat → Value) (B lo lh lr : Nat) : Nat → Value := upd (R18 R B lo lh) 20 (.slice (some ⟨B + 5, 0, none⟩) lr lr)

set_option maxHeartbeats 1600000 in
set_option maxRecDepth 100000 in
theorem fill_any (br lo lh lr : Nat) (R : Nat → Value) (w : World) (h : w.rowIs br 39 23 R) (h1 : lo ≤ 255) (h2 : lh ≤ 255) (h3 : lr ≤ 255) :
    Calls Yba.prog 7 #[.pointer (some ⟨br, 0, none⟩), .int .i64 lo, .int .i64 lh, .int .i64 lr] w fun e w' => e = .returned (.tuple #[]) ∧ FS w br w.heap.size lo lh lr (R20 R w.heap.size lo lh lr) 6 w' := by
  have m1 := make_ints lh (by omega)
  have m2 := make_anys lr (by omega)
  have m3 := make_outs lo (by omega)
  have hb := h.lt
  have c9 := h.cell (i := 9) (by omega)
  have c21 := h.cell (i := 21) (by omega)
  have c22 := h.cell (i := 22) (by omega)
  have f9 := h.frozen 9
  have f21 := h.frozen 21
  have f22 := h.frozen 22
  have HR := hid h
  clear h
  go_enter Yba.func7, Yba.ntmps7
  go_upto_region 3 with fail
  refine wp_gen (fun W => ∃ R1, RunAt w br R1 W ∧ Nums w.heap.size W ∧ w.heap.size + 2 = W.heap.size ∧ R1 = upd (upd (upd R 22 (.int .i64 42)) 21 (.slice (some ⟨w.heap.size, 0, none⟩) 2 2)) 9 (.slice (some ⟨w.heap.size + 1, 0, none⟩) 1 1)) ?_ ?_
  · refine ⟨_, ((((RunAt.start HR.out).set 22 _).set 21 _).set 9 _).alloc _ |>.alloc _, ?_, by simp, rfl⟩
    have h := nums_start (((w.setCell ⟨br, 22, none⟩ (.int .i64 42)).setCell ⟨br, 21, none⟩ (.slice (some ⟨w.heap.size, 0, none⟩) 2 2)).setCell ⟨br, 9, none⟩ (.slice (some ⟨w.heap.size + 1, 0, none⟩) 1 1))
    simpa using h
  rintro W1 ⟨R1, hr1, hn1, hs1, hR1⟩
  have HR1 := hid hR1
  have A1 := hid hr1
  have N1 := hid hn1
  have S1 := hid hs1
  have l1 := hr1.row.lt
  have c4 := hr1.row.cell (i := 4) (by omega)
  have f4 := hr1.row.frozen 4
  clear hR1 hr1 hn1 hs1 c9 c21 c22 f9 f21 f22
  go_upto_region 4 with fail
  refine wp_gen (fun W => FS w br w.heap.size lo lh lr (R4 R w.heap.size) 3 W) ?_ ?_
  · have e := S1.out
    have e2 := HR1.out
    subst e2
    rw [← e]
    have n1 := N1.out
    refine ⟨(A1.out.set 4 _).alloc _, n1.of_block ((blk_alloc_lt _ _ _ (by have := n1.m.lt; simp; omega)).trans (blk_setCell_other _ _ _ _ (by dsimp only; omega))) ((blk_alloc_lt _ _ _ (by have := n1.p.lt; simp; omega)).trans (blk_setCell_other _ _ _ _ (by dsimp only; omega))), ?_, fun hk => by omega, fun hk => by omega, fun hk => by omega, by simp; omega, rfl, hb⟩
    have := three_row (W1.setCell ⟨br, 4, none⟩ (.slice (some ⟨w.heap.size + 2, 0, none⟩) 1 1))
    simpa [e] using this
  clear HR1 A1 N1 S1 l1 c4 f4
  intro W2 s2
  have S2 := hid s2
  have E2 := hid s2.size
  have l2 := s2.run.row.lt
  have c5 := s2.run.row.cell (i := 5) (by omega)
  have f5 := s2.run.row.frozen 5
  clear s2
  go_upto_region 5 with fail
  refine wp_gen (fun W => FS w br w.heap.size lo lh lr (R5 R w.heap.size lo) 4 W) ?_ ?_
  · rw [E2.out]
    exact (S2.out.set 5 _).outs
  clear S2 E2 l2 c5 f5
  intro W3 s3
  go_upto_region 6 with fail
  go_loopw [8] (fun si wr => ∃ i : Nat, i ≤ lo ∧ si = .int .i64 i ∧ FS w br w.heap.size lo lh lr (R5 R w.heap.size lo) 4 wr) (fun si _ => lo - (intOf si).toNat)
  case atStart => exact ⟨0, Nat.zero_le _, rfl, s3⟩
  case round =>
    obtain ⟨i, hi, rfl, s4⟩ := hrel
    clear s3
    by_cases hlt : i < lo
    · have S4 := hid s4
      obtain ⟨fo, ho⟩ := s4.o (by omega)
      have k1 := s4.run.row.cell (i := 5) (by omega)
      have l1 := s4.run.row.lt
      have l2 := ho.lt
      have d0 := ho.cell (i := i * 4) (by omega)
      have d1 := ho.cell (i := i * 4 + 1) (by omega)
      have d2 := ho.cell (i := i * 4 + 2) (by omega)
      have d3 := ho.cell (i := i * 4 + 3) (by omega)
      have g0 := ho.frozen (i * 4)
      have g1 := ho.frozen (i * 4 + 1)
      have g2 := ho.frozen (i * 4 + 2)
      have g3 := ho.frozen (i * 4 + 3)
      have e5 : R5 R w.heap.size lo 5 = .slice (some ⟨w.heap.size + 3, 0, none⟩) lo lo := upd_same _ _ _
      rw [e5] at k1
      clear s4 ho e5
      go_wp2
      go_roundw
      case rel =>
        have q := ((((S4.out.put (.inl rfl) (i * 4) (.bool true)).put (.inl rfl) (i * 4 + 1) (.bool true)).put (.inl rfl) (i * 4 + 2) (.int .i64 ((i : Int) + 1))).put (.inl rfl) (i * 4 + 3) (.int .i64 ((i : Int) + 1)))
        exact ⟨i + 1, by omega, by go_num, q⟩
      case measure => simp [intOf]; omega
    · obtain rfl : i = lo := by omega
      have S4 := hid s4
      have E4 := hid s4.size
      have l4 := s4.run.row.lt
      have c18 := s4.run.row.cell (i := 18) (by omega)
      have f18 := s4.run.row.frozen 18
      clear s4
      go_upto_region 10 with fail
      refine wp_gen (fun W => FS w br w.heap.size i lh lr (R18 R w.heap.size i lh) 5 W) ?_ ?_
      · rw [E4.out]
        exact (S4.out.set 18 _).ints
      clear S4 E4 l4 c18 f18
      intro W5 s5
      go_upto_region 11 with fail
      go_loopw [9] (fun si wr => ∃ j : Nat, j ≤ lh ∧ si = .int .i64 j ∧ FS w br w.heap.size i lh lr (R18 R w.heap.size i lh) 5 wr) (fun si _ => lh - (intOf si).toNat)
      case atStart => exact ⟨0, Nat.zero_le _, rfl, s5⟩
      case round =>
        obtain ⟨j, hj, rfl, s6⟩ := hrel
        clear s5
        by_cases hlt2 : j < lh
        · have S6 := hid s6
          obtain ⟨fo, ho⟩ := s6.h (by omega)
          have k1 := s6.run.row.cell (i := 18) (by omega)
          have l1 := s6.run.row.lt
          have l2 := ho.lt
          have d0 := ho.cell (i := j) (by omega)
          have g0 := ho.frozen j
          have e5 : R18 R w.heap.size i lh 18 = .slice (some ⟨w.heap.size + 4, 0, none⟩) lh lh := upd_same _ _ _
          rw [e5] at k1
          clear s6 ho e5
          go_wp2
          go_roundw
          case rel => exact ⟨j + 1, by omega, by go_num, S6.out.put (.inr (.inl rfl)) _ _⟩
          case measure => simp [intOf]; omega
        · obtain rfl : j = lh := by omega
          have S4 := hid s6
          have E4 := hid s6.size
          have l4 := s6.run.row.lt
          have c18 := s6.run.row.cell (i := 20) (by omega)
          have f18 := s6.run.row.frozen 20
          clear s6
          go_upto_region 15 with fail
          refine wp_gen (fun W => FS w br w.heap.size i j lr (R20 R w.heap.size i j lr) 6 W) ?_ ?_
          · rw [E4.out]
            exact (S4.out.set 20 _).anys
          clear S4 E4 l4 c18 f18
          intro W7 s7
          go_upto_region 16 with fail
          go_loopw [10] (fun si wr => ∃ q : Nat, q ≤ lr ∧ si = .int .i64 q ∧ FS w br w.heap.size i j lr (R20 R w.heap.size i j lr) 6 wr) (fun si _ => lr - (intOf si).toNat)
          case atStart => exact ⟨0, Nat.zero_le _, rfl, s7⟩
          case round =>
            obtain ⟨q, hq, rfl, s8⟩ := hrel
            clear s7
            by_cases hlt3 : q < lr
            · have S8 := hid s8
              obtain ⟨fo, ho⟩ := s8.v (by omega)
              have k1 := s8.run.row.cell (i := 20) (by omega)
              have l1 := s8.run.row.lt
              have l2 := ho.lt
              have d0 := ho.cell (i := q) (by omega)
              have g0 := ho.frozen q
              have e5 : R20 R w.heap.size i j lr 20 = .slice (some ⟨w.heap.size + 5, 0, none⟩) lr lr := upd_same _ _ _
              rw [e5] at k1
              clear s8 ho e5
              go_wp2
              go_roundw
              case rel => exact ⟨q + 1, by omega, by go_num, S8.out.put (.inr (.inr rfl)) _ _⟩
              case measure => simp [intOf]; omega
            · obtain rfl : q = lr := by omega
              go_wp2
              go_end0
              exact ⟨rfl, s8⟩
end Go.Proofs.Ybulkdejs
