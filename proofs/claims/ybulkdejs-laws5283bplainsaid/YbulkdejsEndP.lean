/-
  WHAT LawS5283BPlain READS BEHIND 'resize'.
-/
import Derived.Test.YbulkdejsLayP
namespace Go.Proofs.Ybulkdejs.Pl
open Go.RowKit Go.Deep Go.Proofs.Ybulkdejs
set_option linter.unusedVariables false
set_option linter.unusedSimpArgs false

theorem pre_of {w W : World} {br rb re lb eb k : Nat} {ev : Nat → Nat} {R TF RF : Nat → Value} {tm : Option Addr} {l : Nat → Nat} {A : Nat → Nat → Addr} {tag : Nat → Nat} {sh : Bool} (h : Bi w br R rb re lb eb k ev tm l k W tag TF RF A) (o : Obj) (h19 : R 19 = .slice tm k k) (h2 : R 2 = .bool sh) (hk : k ≤ 300) :
    Pre (W.alloc o) (tg tag W.heap.size 0) br R sh k tm TF l A := by
  have s : Step (fun _ => False) W tag (W.alloc o) (tg tag W.heap.size 0) := Step.alloc o 0
  have b := h.bs.step s (fun _ _ _ h => h)
  exact ⟨b.row, b.tbr, h2, b.o, b.h, b.v, h19, s.own h.times h.tt (fun h => h), s.at_ h.times h.tt, fun j hj => (h.old j hj).step s (fun h => h) (fun h => h) rfl rfl, hk⟩

/-- What is read behind 'resize'; lz, A0: the processes of time 0. -/
structure En (w : World) (br rb k n lz : Nat) (A0 : Nat → Addr) (tao : Option Addr) (cap : Nat) (R TF RF : Nat → Value) (W : World) : Prop where
  bel : Below w.heap.size w W
  row : W.rowIs br 39 23 R
  t19 : R 19 = .slice tao 2 cap
  own : Own W 50 6 tao 2 cap TF
  recs : W.rowIs rb 42 2 RF
  rec0 : ∃ ra, RF 0 = .slice ra lz lz ∧ Own W 58 1 ra lz lz (pf lz A0)
  ent : ∀ j, j < 2 → ∃ pa pc sa sc, TF (j * 6) = .slice pa n pc ∧ TF (j * 6 + 1) = .slice sa n sc ∧ Own W 58 1 pa n pc (pf lz A0) ∧ Own W 20 1 sa n sc (zf 1 zAny)
  snd : ∀ j, j < 2 → j < k → ∃ sb, TF (j * 6 + 2) = .slice (some ⟨sb, 0, none⟩) 1 1 ∧ W.rowIs sb 3 1 (fun _ => .int .i64 j)
  nosnd : ∀ j, j < 2 → k ≤ j → TF (j * 6 + 2) = .slice none 0 0
  same : TF 6 = TF 0

theorem En.below {w W W' : World} {br rb k n lz cap : Nat} {A0 : Nat → Addr} {tao : Option Addr} {R TF RF : Nat → Value} (h : En w br rb k n lz A0 tao cap R TF RF W) (hb : Below W.heap.size W W') : En w br rb k n lz A0 tao cap R TF RF W' := by
  refine ⟨⟨hb.os.trans h.bel.os, hb.tape.trans h.bel.tape, hb.output.trans h.bel.output, Nat.le_trans h.bel.size hb.size, fun b hb' => (hb.block b (Nat.lt_of_lt_of_le hb' h.bel.size)).trans (h.bel.block b hb')⟩,
    h.row.of_block (hb.block _ h.row.lt), h.t19, h.own.below' hb, h.recs.of_block (hb.block _ h.recs.lt), ?_, fun j hj => ?_, fun j hj hk => ?_, h.nosnd, h.same⟩
  · obtain ⟨ra, h1, h2⟩ := h.rec0
    exact ⟨ra, h1, h2.below' hb⟩
  · obtain ⟨pa, pc, sa, sc, h1, h2, h3, h4⟩ := h.ent j hj
    exact ⟨pa, pc, sa, sc, h1, h2, h3.below' hb, h4.below' hb⟩
  · obtain ⟨sb, h1, h2⟩ := h.snd j hj hk
    exact ⟨sb, h1, h2.of_block (hb.block _ h2.lt)⟩

theorem en_plain {w W W' : World} {br rb lb eb k n cap : Nat} {ev : Nat → Nat} {T : Int} {R R' TF TF' RF : Nat → Value} {tm tao : Option Addr} {l : Nat → Nat} {A : Nat → Nat → Addr} {tag tag' : Nat → Nat} (h : Bi w br R rb 42 lb eb k ev tm l k W tag TF RF A) (hr : k = 0 → RF 0 = .slice none 0 0) (o : Obj)
    (d : Done (W.alloc o) (tg tag W.heap.size 0) br n T R 2 (fun _ => l2 k l 0) (fun _ => A 0) (ext 6 zTim (k * 6) TF) W' tag' R' TF' tao cap) (hs : TF' 6 = TF' 0) :
    En w br rb k n (l2 k l 0) (A 0) tao cap R' TF' RF W' := by
  have s0 : Step (fun t => t ≠ 0 ∧ t < 1000) W tag (W.alloc o) (tg tag W.heap.size 0) := Step.alloc o 0
  have s := s0.trans d.step
  refine ⟨⟨s.os.trans h.bs.bel.os, s.tape.trans h.bs.bel.tape, s.output.trans h.bs.bel.output, Nat.le_trans h.bs.bel.size s.size, fun b hb => (s.block b (Nat.lt_of_lt_of_le hb h.bs.bel.size) (by rw [h.bs.old b hb]; omega)).trans (h.bs.bel.block b hb)⟩, d.row, d.t19, d.own, s.row h.recs h.trb (by omega), ?_, d.new, fun j hj hk => ?_, fun j hj hk => (d.rest j hj 2 (by omega) (by omega)).trans (ext_new hk (by omega)), hs⟩
  · by_cases hk : 0 < k
    · obtain ⟨ra, r1, r2, r3⟩ := h.rec_ 0 hk
      unfold l2
      rw [if_pos hk]
      exact ⟨ra, r1, s.own r2 r3 (by omega)⟩
    · unfold l2
      rw [if_neg hk]
      exact ⟨none, hr (by omega), .inl ⟨rfl, rfl, rfl⟩⟩
  · obtain ⟨sb, t1, t2, t3⟩ := h.snd j hk
    exact ⟨sb, ((d.rest j hj 2 (by omega) (by omega)).trans (ext_old hk (by omega))).trans t1, s.row t2 t3 (by omega)⟩
end Go.Proofs.Ybulkdejs.Pl
