/-
  WHAT THE B LAWS READ BEHIND 'resize'.
-/
import Derived.Test.YbulkdejsLayB
namespace Go.Proofs.Ybulkdejs
open Go.RowKit Go.Deep
set_option linter.unusedVariables false
set_option linter.unusedSimpArgs false

/-- What 'resize' is called at, from what is laid; the system's variable is made ahead of it. -/
theorem pre_of {w W : World} {br rb k : Nat} {R TF RF : Nat → Value} {tm : Option Addr} {l : Nat → Nat} {A : Nat → Nat → Addr} {tag : Nat → Nat} {sh : Bool} (h : Bi w br R rb k tm l k W tag TF RF A) (o : Obj) (h19 : R 19 = .slice tm k k) (h2 : R 2 = .bool sh) (hk : k ≤ 300) :
    Pre (W.alloc o) (tg tag W.heap.size 0) br R sh k tm TF l A := by
  have s : Step (fun _ => False) W tag (W.alloc o) (tg tag W.heap.size 0) := Step.alloc o 0
  have b := h.bs.step s (fun _ _ _ h => h)
  exact ⟨b.row, b.tbr, h2, b.o, b.h, b.v, h19, s.own h.times h.tt (fun h => h), s.at_ h.times h.tt, fun j hj => (h.old j hj).step s (fun h => h) (fun h => h) rfl rfl, hk⟩

/-- Entry j behind 'resize'. -/
def EntE (W : World) (n : Nat) (l : Nat → Nat) (A : Nat → Nat → Addr) (TF RF : Nat → Value) (j : Nat) : Prop :=
  ∃ pa pc sa sc ra sb, TF (j * 6) = .slice pa n pc ∧ TF (j * 6 + 1) = .slice sa n sc ∧ TF (j * 6 + 2) = .slice (some ⟨sb, 0, none⟩) 1 1 ∧ RF j = .slice ra (l j) (l j) ∧
    Own W 58 1 pa n pc (pf (l j) (A j)) ∧ Own W 20 1 sa n sc (zf 1 zAny) ∧ Own W 58 1 ra (l j) (l j) (pf (l j) (A j)) ∧ W.rowIs sb 3 1 (fun _ => .int .i64 j)

theorem EntE.below {W W' : World} {n : Nat} {l : Nat → Nat} {A : Nat → Nat → Addr} {TF RF : Nat → Value} {j : Nat} (h : EntE W n l A TF RF j) (hb : Below W.heap.size W W') : EntE W' n l A TF RF j := by
  obtain ⟨pa, pc, sa, sc, ra, sb, h1, h2, h3, h4, h5, h6, h7, h8⟩ := h
  exact ⟨pa, pc, sa, sc, ra, sb, h1, h2, h3, h4, h5.below' hb, h6.below' hb, h7.below' hb, h8.of_block (hb.block _ h8.lt)⟩

structure En (w : World) (br rb k n : Nat) (l : Nat → Nat) (A : Nat → Nat → Addr) (tao : Option Addr) (cap : Nat) (R TF RF : Nat → Value) (W : World) : Prop where
  bel : Below w.heap.size w W
  row : W.rowIs br 39 23 R
  t19 : R 19 = .slice tao k cap
  own : Own W 50 6 tao k cap TF
  recs : W.rowIs rb 41 k RF
  ent : ∀ j, j < k → EntE W n l A TF RF j

theorem En.below {w W W' : World} {br rb k n cap : Nat} {l : Nat → Nat} {A : Nat → Nat → Addr} {tao : Option Addr} {R TF RF : Nat → Value} (h : En w br rb k n l A tao cap R TF RF W) (hb : Below W.heap.size W W') : En w br rb k n l A tao cap R TF RF W' :=
  ⟨⟨hb.os.trans h.bel.os, hb.tape.trans h.bel.tape, hb.output.trans h.bel.output, Nat.le_trans h.bel.size hb.size, fun b hb' => (hb.block b (Nat.lt_of_lt_of_le hb' h.bel.size)).trans (h.bel.block b hb')⟩,
    h.row.of_block (hb.block _ h.row.lt), h.t19, h.own.below' hb, h.recs.of_block (hb.block _ h.recs.lt), fun j hj => (h.ent j hj).below hb⟩

theorem en_shares {w W W' : World} {br rb k n cap : Nat} {T : Int} {R R' TF TF' RF : Nat → Value} {tm tao : Option Addr} {l : Nat → Nat} {A : Nat → Nat → Addr} {tag tag' : Nat → Nat} (h : Bi w br R rb k tm l k W tag TF RF A) (o : Obj) (d : Done (W.alloc o) (tg tag W.heap.size 0) br n T R k l A TF W' tag' R' TF' tao cap) :
    En w br rb k n l A tao cap R' TF' RF W' := by
  have s0 : Step (fun t => t ≠ 0 ∧ t < 1000) W tag (W.alloc o) (tg tag W.heap.size 0) := Step.alloc o 0
  have s := s0.trans d.step
  refine ⟨⟨s.os.trans h.bs.bel.os, s.tape.trans h.bs.bel.tape, s.output.trans h.bs.bel.output, Nat.le_trans h.bs.bel.size s.size, fun b hb => (s.block b (Nat.lt_of_lt_of_le hb h.bs.bel.size) (by rw [h.bs.old b hb]; omega)).trans (h.bs.bel.block b hb)⟩, d.row, d.t19, d.own, s.row h.recs h.trb (by omega), fun j hj => ?_⟩
  obtain ⟨pa, pc, sa, sc, h1, h2, h3, h4⟩ := d.new j hj
  obtain ⟨ra, r1, r2, r3⟩ := h.rec_ j hj
  obtain ⟨sb, t1, t2, t3⟩ := h.snd j hj
  exact ⟨pa, pc, sa, sc, ra, sb, h1, h2, (d.rest j hj 2 (by omega) (by omega)).trans t1, r1, h3, h4, s.own r2 r3 (by omega), s.row t2 t3 (by omega)⟩

/-- 'sizedok' behind 'resize'. -/
theorem ok_done {w W W' : World} {br n K cap : Nat} {T : Int} {R R' TF TF' : Nat → Value} {tao : Option Addr} {l : Nat → Nat} {A : Nat → Nat → Addr} {tag tag' : Nat → Nat} (h : Bs w br R W tag) (o : Obj) (d : Done (W.alloc o) (tg tag W.heap.size 0) br n T R K l A TF W' tag' R' TF' tao cap) (hn : n ≤ 2000) :
    Calls Yba.prog 10 #[.pointer (some ⟨br, 0, none⟩), .agg #[.int .i64 n, .int .i64 T]] W' fun e w' => e = .returned (.bool true) ∧ Below W'.heap.size W' w' := by
  have s0 : Step (fun t => t ≠ 0 ∧ t < 1000) W tag (W.alloc o) (tg tag W.heap.size 0) := Step.alloc o 0
  have s := s0.trans d.step
  obtain ⟨po, kp, p1, p2, _⟩ := d.z5
  obtain ⟨ho, kh, q1, q2, _⟩ := d.z18
  obtain ⟨vo, kv, v1, v2, _⟩ := d.z20
  exact sizedok_any br n T R' po ho vo kp kh kv W' hn d.row ((h.fil.step s (by omega)).filled d.s4 d.s9 d.s21 d.s22) d.n7 d.t8 p1 q1 v1 p2 q2 v2

/-- The system's variable is as it was. -/
theorem sys_done {W W' : World} {br n K cap : Nat} {N T : Int} {R R' TF TF' : Nat → Value} {tao : Option Addr} {l : Nat → Nat} {A : Nat → Nat → Addr} {tag tag' : Nat → Nat} (d : Done (W.alloc (.cells #[.int .i64 N, .int .i64 T] 31)) (tg tag W.heap.size 0) br n T R K l A TF W' tag' R' TF' tao cap) :
    W'.cell? ⟨W.heap.size, 0, none⟩ = some (.int .i64 N) ∧ W'.cell? ⟨W.heap.size, 1, none⟩ = some (.int .i64 T) ∧ W.heap.size < W'.heap.size := by
  have r := World.rowIs_alloc W #[.int .i64 N, .int .i64 T] 31 (fun i => if i = 0 then .int .i64 N else .int .i64 T) (fun i hi => by
    match i, hi with
    | 0, _ => rfl
    | 1, _ => rfl)
  have r' := d.step.row r (tg_new (Nat.le_refl _)) (by omega)
  exact ⟨r'.cell (i := 0) (by simp), r'.cell (i := 1) (by simp), r'.lt⟩
end Go.Proofs.Ybulkdejs
