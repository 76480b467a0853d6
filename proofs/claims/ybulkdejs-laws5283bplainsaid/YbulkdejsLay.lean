/-
  WHAT THE B LAWS LAY AHEAD OF 'resize': the runner, the recorded processes, the time tables, entry by entry.
-/
import Derived.Test.YbulkdejsResizeP
namespace Go.Proofs.Ybulkdejs
open Go.RowKit Go.Deep
set_option linter.unusedVariables false
set_option linter.unusedSimpArgs false

/-- The small rows, of the owner 0. -/
structure FilT (W : World) (tag : Nat → Nat) (R : Nat → Value) : Prop where
  i : ∃ b, R 4 = .slice (some ⟨b, 0, none⟩) 1 1 ∧ W.rowIs b 3 1 (fun _ => .int .i64 3) ∧ tag b = 0
  p : ∃ b, R 9 = .slice (some ⟨b, 0, none⟩) 1 1 ∧ W.rowIs b 3 1 (fun _ => .int .i64 9) ∧ tag b = 0
  m : ∃ b, R 21 = .slice (some ⟨b, 0, none⟩) 2 2 ∧ W.rowIs b 3 2 (fun j => .int .i64 ((j : Int) + 1)) ∧ tag b = 0
  e : R 22 = .int .i64 42

theorem FilT.step {S : Nat → Prop} {W W' : World} {tag tag' : Nat → Nat} {R : Nat → Value} (h : FilT W tag R) (hs : Step S W tag W' tag') (h0 : ¬ S 0) : FilT W' tag' R := by
  obtain ⟨⟨b, h1, h2, h3⟩, ⟨c, h4, h5, h6⟩, ⟨d, h7, h8, h9⟩, h10⟩ := h
  exact ⟨⟨b, h1, hs.row h2 h3 h0, hs.tagOf h2.lt h3⟩, ⟨c, h4, hs.row h5 h6 h0, hs.tagOf h5.lt h6⟩, ⟨d, h7, hs.row h8 h9 h0, hs.tagOf h8.lt h9⟩, h10⟩

theorem FilT.filled {W : World} {tag : Nat → Nat} {R R' : Nat → Value} (h : FilT W tag R) (e4 : R' 4 = R 4) (e9 : R' 9 = R 9) (e21 : R' 21 = R 21) (e22 : R' 22 = R 22) : Filled W R' := by
  obtain ⟨⟨b, h1, h2, h3⟩, ⟨c, h4, h5, h6⟩, ⟨d, h7, h8, h9⟩, h10⟩ := h
  exact ⟨⟨b, e4.trans h1, h2⟩, ⟨c, e9.trans h4, h5⟩, ⟨d, e21.trans h7, h8⟩, e22.trans h10⟩

/-- Entry j is laid: its processes, its record, its senders. -/
def Rec (W : World) (tag : Nat → Nat) (RF : Nat → Value) (l : Nat → Nat) (A : Nat → Nat → Addr) (j : Nat) : Prop :=
  ∃ ra, RF j = .slice ra (l j) (l j) ∧ Own W 58 1 ra (l j) (l j) (pf (l j) (A j)) ∧ At tag ra 0
def Snd (W : World) (tag : Nat → Nat) (TF : Nat → Value) (j : Nat) : Prop :=
  ∃ sb, TF (j * 6 + 2) = .slice (some ⟨sb, 0, none⟩) 1 1 ∧ W.rowIs sb 3 1 (fun _ => .int .i64 j) ∧ tag sb = 0

theorem Rec.step {S : Nat → Prop} {W W' : World} {tag tag' : Nat → Nat} {RF RF' : Nat → Value} {l : Nat → Nat} {A : Nat → Nat → Addr} {j : Nat} (h : Rec W tag RF l A j) (hs : Step S W tag W' tag') (h0 : ¬ S 0) (e : RF' j = RF j) : Rec W' tag' RF' l A j := by
  obtain ⟨ra, h1, h2, h3⟩ := h
  exact ⟨ra, e.trans h1, hs.own h2 h3 h0, hs.at_ h2 h3⟩
theorem Snd.step {S : Nat → Prop} {W W' : World} {tag tag' : Nat → Nat} {TF TF' : Nat → Value} {j : Nat} (h : Snd W tag TF j) (hs : Step S W tag W' tag') (h0 : ¬ S 0) (e : TF' (j * 6 + 2) = TF (j * 6 + 2)) : Snd W' tag' TF' j := by
  obtain ⟨sb, h1, h2, h3⟩ := h
  exact ⟨sb, e.trans h1, hs.row h2 h3 h0, hs.tagOf h2.lt h3⟩

/-- What stands beside the entries. -/
structure Bs (w : World) (br : Nat) (R : Nat → Value) (W : World) (tag : Nat → Nat) : Prop where
  bel : Below w.heap.size w W
  old : ∀ b, b < w.heap.size → tag b = 0
  row : W.rowIs br 39 23 R
  tbr : tag br = 1
  o : Tb W tag 3 82 4 (R 5)
  h : Tb W tag 4 3 1 (R 18)
  v : Tb W tag 5 20 1 (R 20)
  fil : FilT W tag R

theorem Bs.step {S : Nat → Prop} {w W W' : World} {tag tag' : Nat → Nat} {br : Nat} {R : Nat → Value} (h : Bs w br R W tag) (hs : Step S W tag W' tag') (hS : ∀ t, t ≤ 5 → t ≠ 2 → ¬ S t) : Bs w br R W' tag' :=
  ⟨⟨hs.os.trans h.bel.os, hs.tape.trans h.bel.tape, hs.output.trans h.bel.output, Nat.le_trans h.bel.size hs.size, fun k hk => (hs.block k (Nat.lt_of_lt_of_le hk h.bel.size) (by rw [h.old k hk]; exact hS 0 (by omega) (by omega))).trans (h.bel.block k hk)⟩,
    fun b hb => (hs.agree b (Nat.lt_of_lt_of_le hb h.bel.size)).trans (h.old b hb), hs.row h.row h.tbr (hS 1 (by omega) (by omega)), hs.tagOf h.row.lt h.tbr, h.o.step hs (hS 3 (by omega) (by omega)), h.h.step hs (hS 4 (by omega) (by omega)), h.v.step hs (hS 5 (by omega) (by omega)), h.fil.step hs (hS 0 (by omega) (by omega))⟩

/-- i entries are laid. -/
structure Bi (w : World) (br : Nat) (R : Nat → Value) (rb k : Nat) (tm : Option Addr) (l : Nat → Nat) (i : Nat) (W : World) (tag : Nat → Nat) (TF RF : Nat → Value) (A : Nat → Nat → Addr) : Prop where
  bs : Bs w br R W tag
  recs : W.rowIs rb 41 k RF
  trb : tag rb = 1000
  times : Own W 50 6 tm k k TF
  tt : At tag tm 2
  old : ∀ j, j < i → OldE W tag TF l A j
  rec_ : ∀ j, j < i → Rec W tag RF l A j
  snd : ∀ j, j < i → Snd W tag TF j

theorem Bi.move {S : Nat → Prop} {w W W' : World} {tag tag' : Nat → Nat} {br rb k i : Nat} {R TF TF' RF RF' : Nat → Value} {tm : Option Addr} {l : Nat → Nat} {A : Nat → Nat → Addr} (h : Bi w br R rb k tm l i W tag TF RF A) (hs : Step S W tag W' tag') (hS : ∀ t, t ≠ 2 → t ≠ 1000 → t ≠ 6 + i → ¬ S t)
    (hr : W'.rowIs rb 41 k RF') (ht : Own W' 50 6 tm k k TF') (eT : ∀ j, j < i → ∀ c, c < 6 → TF' (j * 6 + c) = TF (j * 6 + c)) (eR : ∀ j, j < i → RF' j = RF j) (hi : i ≤ 300) : Bi w br R rb k tm l i W' tag' TF' RF' A :=
  ⟨h.bs.step hs fun t ht h2 => hS t h2 (by omega) (by omega), hr, hs.tagOf h.recs.lt h.trb, ht, hs.at_ h.times h.tt,
    fun j hj => (h.old j hj).step hs (hS 0 (by omega) (by omega) (by omega)) (hS _ (by omega) (by omega) (by omega)) (eT j hj 0 (by omega)) (eT j hj 1 (by omega)),
    fun j hj => (h.rec_ j hj).step hs (hS 0 (by omega) (by omega) (by omega)) (eR j hj), fun j hj => (h.snd j hj).step hs (hS 0 (by omega) (by omega) (by omega)) (eT j hj 2 (by omega))⟩

/-- .. and of entry i: the processes, the record, the messages sent (not yet in the tables). -/
structure Bm (w : World) (br : Nat) (R : Nat → Value) (rb k : Nat) (tm : Option Addr) (l : Nat → Nat) (i : Nat) (pb c sb d : Nat) (W : World) (tag : Nat → Nat) (TF RF : Nat → Value) (A : Nat → Nat → Addr) (Ai : Nat → Addr) : Prop where
  bi : Bi w br R rb k tm l i W tag TF RF A
  le : l i ≤ c
  p : Own W 58 1 (some ⟨pb, 0, none⟩) c c (pf (l i) Ai)
  tp : tag pb = 0
  ra : ∃ ra, RF i = .slice ra (l i) (l i) ∧ Own W 58 1 ra (l i) (l i) (pf (l i) Ai) ∧ At tag ra 0
  s : ∃ f, W.rowIs sb 20 d f
  ts : tag sb = 6 + i

def updA (A : Nat → Nat → Addr) (i : Nat) (Ai : Nat → Addr) : Nat → Nat → Addr := fun j => if j = i then Ai else A j
theorem updA_same {A : Nat → Nat → Addr} {i : Nat} {Ai : Nat → Addr} : updA A i Ai i = Ai := if_pos rfl
theorem updA_other {A : Nat → Nat → Addr} {i j : Nat} {Ai : Nat → Addr} (h : j ≠ i) : updA A i Ai j = A j := if_neg h

section
variable {w W W1 : World} {tag : Nat → Nat} {br rb k i : Nat} {R TF RF : Nat → Value} {tm : Option Addr} {l : Nat → Nat} {A : Nat → Nat → Addr}

/-- The call of 'procs', the record's store, the make. -/
theorem bm_start (h : Bi w br R rb k tm l i W tag TF RF A) (hi : i ≤ 300) {c d : Nat} {Ai : Nat → Addr} (hl : l i ≤ c) (hp : Own W1 58 1 (some ⟨W.heap.size, 0, none⟩) c c (pf (l i) Ai)) (hr : Own W1 58 1 (some ⟨W.heap.size + 1, 0, none⟩) (l i) (l i) (pf (l i) Ai)) (hb : Below W.heap.size W W1) (hs : W.heap.size + 1 < W1.heap.size) :
    ∃ tag' RF', Bm w br R rb k tm l i W.heap.size c W1.heap.size d ((W1.setCell ⟨rb, i, none⟩ (.slice (some ⟨W.heap.size + 1, 0, none⟩) (l i) (l i))).alloc (Arw d)) tag' TF RF' A Ai := by
  have s1 : Step (fun t => t = 1000 ∨ t = 6 + i) W tag W1 (tg tag W.heap.size 0) := Step.below hb 0
  have t1 : tg tag W.heap.size 0 rb = 1000 := s1.tagOf h.recs.lt h.trb
  have s2 : Step (fun t => t = 1000 ∨ t = 6 + i) W1 (tg tag W.heap.size 0) (W1.setCell ⟨rb, i, none⟩ (.slice (some ⟨W.heap.size + 1, 0, none⟩) (l i) (l i))) (tg tag W.heap.size 0) := Step.setCell _ (.inl t1)
  have s3 : Step (fun t => t = 1000 ∨ t = 6 + i) (W1.setCell ⟨rb, i, none⟩ (.slice (some ⟨W.heap.size + 1, 0, none⟩) (l i) (l i))) (tg tag W.heap.size 0) _ _ := Step.alloc (Arw d) (6 + i)
  have s := (s1.trans s2).trans s3
  have s23 := s2.trans s3
  have r1 : W1.rowIs rb 41 k RF := h.recs.of_block (hb.block _ h.recs.lt)
  have e1 : (W1.setCell ⟨rb, i, none⟩ (.slice (some ⟨W.heap.size + 1, 0, none⟩) (l i) (l i))).heap.size = W1.heap.size := by simp
  refine ⟨_, upd RF i (.slice (some ⟨W.heap.size + 1, 0, none⟩) (l i) (l i)), h.move s (fun t a b c => by omega) ((r1.set i _).alloc _) (s.own h.times h.tt (by omega)) (fun _ _ _ _ => rfl) (fun j hj => upd_other _ (by omega)) hi, hl, ?_, ?_, ⟨_, upd_same _ _ _, ?_, ?_⟩, ?_, ?_⟩
  · exact s23.own hp (t := 0) (fun a ha => by obtain rfl := Option.some.inj ha; exact tg_new (Nat.le_refl _)) (by omega)
  · rw [e1, tg_old (by omega), tg_new (Nat.le_refl _)]
  · exact s23.own hr (t := 0) (fun a ha => by obtain rfl := Option.some.inj ha; exact tg_new (by show _ ≤ _ + 1; omega)) (by omega)
  · intro a ha
    obtain rfl := Option.some.inj ha
    rw [e1]
    exact (tg_old hs).trans (tg_new (by show _ ≤ _ + 1; omega))
  · have := made_row (W1.setCell ⟨rb, i, none⟩ (.slice (some ⟨W.heap.size + 1, 0, none⟩) (l i) (l i))) #[.nilIface] d 20 (by simp)
    rw [e1] at this
    exact this
  · rw [e1]; exact tg_new (Nat.le_refl _)

/-- A store into the row of the messages sent. -/
theorem Bm.put {pb c sb d : Nat} {Ai : Nat → Addr} (h : Bm w br R rb k tm l i pb c sb d W tag TF RF A Ai) (hi : i ≤ 300) (q : Nat) (v : Value) : Bm w br R rb k tm l i pb c sb d (W.setCell ⟨sb, q, none⟩ v) tag TF RF A Ai := by
  have s : Step (fun t => t = 6 + i) W tag (W.setCell ⟨sb, q, none⟩ v) tag := Step.setCell _ h.ts
  obtain ⟨ra, r1, r2, r3⟩ := h.ra
  obtain ⟨f, hf⟩ := h.s
  exact ⟨h.bi.move s (fun t a b c => by omega) (s.row h.bi.recs h.bi.trb (by omega)) (s.own h.bi.times h.bi.tt (by omega)) (fun _ _ _ _ => rfl) (fun _ _ => rfl) hi, h.le, s.own h.p (t := 0) (fun a ha => by obtain rfl := Option.some.inj ha; exact h.tp) (by omega), h.tp, ⟨ra, r1, s.own r2 r3 (by omega), r3⟩, ⟨_, hf.set q v⟩, h.ts⟩

/-- The three stores into the times' table: entry i is laid. -/
theorem Bm.done {pb c sb d g : Nat} {Ai : Nat → Addr} (h : Bm w br R rb k (some ⟨g, 0, none⟩) l i pb c sb d W tag TF RF A Ai) (hi : i < k) (hk : k ≤ 300) (hd : d ≤ 4000) :
    ∃ tag' TF', Bi w br R rb k (some ⟨g, 0, none⟩) l (i + 1) ((((W.setCell ⟨g, i * 6, none⟩ (.slice (some ⟨pb, 0, none⟩) (l i) c)).setCell ⟨g, i * 6 + 1, none⟩ (.slice (some ⟨sb, 0, none⟩) d d)).setCell ⟨g, i * 6 + 2, none⟩ (.slice (some ⟨W.heap.size, 0, none⟩) 1 1)).alloc (.cells #[.int .i64 i] 3)) tag' TF' RF (updA A i Ai) := by
  have tgt : tag g = 2 := h.bi.tt ⟨g, 0, none⟩ rfl
  have s1 : Step (fun t => t = 2) W tag (W.setCell ⟨g, i * 6, none⟩ (.slice (some ⟨pb, 0, none⟩) (l i) c)) tag := Step.setCell _ tgt
  have s2 : Step (fun t => t = 2) (W.setCell ⟨g, i * 6, none⟩ (.slice (some ⟨pb, 0, none⟩) (l i) c)) tag ((W.setCell ⟨g, i * 6, none⟩ (.slice (some ⟨pb, 0, none⟩) (l i) c)).setCell ⟨g, i * 6 + 1, none⟩ (.slice (some ⟨sb, 0, none⟩) d d)) tag := Step.setCell _ tgt
  have s3 : Step (fun t => t = 2) ((W.setCell ⟨g, i * 6, none⟩ (.slice (some ⟨pb, 0, none⟩) (l i) c)).setCell ⟨g, i * 6 + 1, none⟩ (.slice (some ⟨sb, 0, none⟩) d d)) tag (((W.setCell ⟨g, i * 6, none⟩ (.slice (some ⟨pb, 0, none⟩) (l i) c)).setCell ⟨g, i * 6 + 1, none⟩ (.slice (some ⟨sb, 0, none⟩) d d)).setCell ⟨g, i * 6 + 2, none⟩ (.slice (some ⟨W.heap.size, 0, none⟩) 1 1)) tag := Step.setCell _ tgt
  have s4 : Step (fun t => t = 2) (((W.setCell ⟨g, i * 6, none⟩ (.slice (some ⟨pb, 0, none⟩) (l i) c)).setCell ⟨g, i * 6 + 1, none⟩ (.slice (some ⟨sb, 0, none⟩) d d)).setCell ⟨g, i * 6 + 2, none⟩ (.slice (some ⟨W.heap.size, 0, none⟩) 1 1)) tag _ _ := Step.alloc (.cells #[.int .i64 i] 3) 0
  have s := ((s1.trans s2).trans s3).trans s4
  have ot := (((h.bi.times.put (i * 6) (.slice (some ⟨pb, 0, none⟩) (l i) c)).put (i * 6 + 1) (.slice (some ⟨sb, 0, none⟩) d d)).put (i * 6 + 2) (.slice (some ⟨W.heap.size, 0, none⟩) 1 1)).alloc (.cells #[.int .i64 i] 3)
  have b := h.bi.move s (fun t a b c => by omega) (s.row h.bi.recs h.bi.trb (by omega)) ot (fun j hj c hc => (upd_other _ (by omega)).trans ((upd_other _ (by omega)).trans (upd_other _ (by omega)))) (fun _ _ => rfl) (by omega)
  obtain ⟨ra, r1, r2, r3⟩ := h.ra
  obtain ⟨f, hf⟩ := h.s
  have e1 : (((W.setCell ⟨g, i * 6, none⟩ (.slice (some ⟨pb, 0, none⟩) (l i) c)).setCell ⟨g, i * 6 + 1, none⟩ (.slice (some ⟨sb, 0, none⟩) d d)).setCell ⟨g, i * 6 + 2, none⟩ (.slice (some ⟨W.heap.size, 0, none⟩) 1 1)).heap.size = W.heap.size := by simp
  have tpa : At tag (some ⟨pb, 0, none⟩) 0 := fun a ha => by obtain rfl := Option.some.inj ha; exact h.tp
  refine ⟨_, _, b.bs, b.recs, b.trb, b.times, b.tt, fun j hj => ?_, fun j hj => ?_, fun j hj => ?_⟩
  · by_cases e : j = i
    · subst e
      refine ⟨_, _, _, _, _, _, f, (upd_other _ (by omega)).trans ((upd_other _ (by omega)).trans (upd_same _ _ _)), (upd_other _ (by omega)).trans (upd_same _ _ _), h.le, ?_, s.at_ h.p tpa, s.own (t := 6 + j) (own_row hf hd) (fun a ha => by obtain rfl := Option.some.inj ha; exact h.ts) (by omega), s.at_ (own_row hf hd) (fun a ha => by obtain rfl := Option.some.inj ha; exact h.ts)⟩
      rw [updA_same]
      exact s.own h.p tpa (by omega)
    · have q := b.old j (by omega)
      unfold OldE at q ⊢
      rw [updA_other e]
      exact q
  · by_cases e : j = i
    · subst e
      refine ⟨ra, r1, ?_, s.at_ r2 r3⟩
      rw [updA_same]
      exact s.own r2 r3 (by omega)
    · have q := b.rec_ j (by omega)
      unfold Rec at q ⊢
      rw [updA_other e]
      exact q
  · by_cases e : j = i
    · subst e
      refine ⟨W.heap.size, upd_same _ _ _, ?_, by rw [e1]; exact tg_new (Nat.le_refl _)⟩
      have q := World.rowIs_alloc (((W.setCell ⟨g, j * 6, none⟩ (.slice (some ⟨pb, 0, none⟩) (l j) c)).setCell ⟨g, j * 6 + 1, none⟩ (.slice (some ⟨sb, 0, none⟩) d d)).setCell ⟨g, j * 6 + 2, none⟩ (.slice (some ⟨W.heap.size, 0, none⟩) 1 1)) #[.int .i64 j] 3 (fun _ => .int .i64 j) fun i hi => by
        match i, hi with
        | 0, _ => rfl
      rw [e1] at q
      exact q
    · exact b.snd j (by omega)
end
end Go.Proofs.Ybulkdejs
