/-
  WHAT LawS5283BPlain LAYS AHEAD OF 'resize' (as YbulkdejsLay; the records lie in an array, two arrays of numbers beside it).
-/
import Derived.Test.YbulkdejsEnd
namespace Go.Proofs.Ybulkdejs.Pl
open Go.RowKit Go.Deep Go.Proofs.Ybulkdejs
set_option linter.unusedVariables false
set_option linter.unusedSimpArgs false

/-- i entries are laid. -/
structure Bi (w : World) (br : Nat) (R : Nat → Value) (rb re lb eb k : Nat) (ev : Nat → Nat) (tm : Option Addr) (l : Nat → Nat) (i : Nat) (W : World) (tag : Nat → Nat) (TF RF : Nat → Value) (A : Nat → Nat → Addr) : Prop where
  bs : Bs w br R W tag
  recs : W.rowIs rb re 2 RF
  trb : tag rb = 1000
  ls : W.rowIs lb 43 2 (fun j => .int .i64 (l j))
  tls : tag lb = 0
  es : W.rowIs eb 43 2 (fun j => .int .i64 (ev j))
  tes : tag eb = 0
  times : Own W 50 6 tm k k TF
  tt : At tag tm 2
  old : ∀ j, j < i → OldE W tag TF l A j
  rec_ : ∀ j, j < i → Rec W tag RF l A j
  snd : ∀ j, j < i → Snd W tag TF j

theorem Bi.move {S : Nat → Prop} {w W W' : World} {tag tag' : Nat → Nat} {br rb re lb eb k i : Nat} {ev : Nat → Nat} {R TF TF' RF RF' : Nat → Value} {tm : Option Addr} {l : Nat → Nat} {A : Nat → Nat → Addr} (h : Bi w br R rb re lb eb k ev tm l i W tag TF RF A) (hs : Step S W tag W' tag') (hS : ∀ t, t ≠ 2 → t ≠ 1000 → t ≠ 6 + i → ¬ S t)
    (hr : W'.rowIs rb re 2 RF') (ht : Own W' 50 6 tm k k TF') (eT : ∀ j, j < i → ∀ c, c < 6 → TF' (j * 6 + c) = TF (j * 6 + c)) (eR : ∀ j, j < i → RF' j = RF j) (hi : i ≤ 300) : Bi w br R rb re lb eb k ev tm l i W' tag' TF' RF' A :=
  ⟨h.bs.step hs fun t ht h2 => hS t h2 (by omega) (by omega), hr, hs.tagOf h.recs.lt h.trb, hs.row h.ls h.tls (hS 0 (by omega) (by omega) (by omega)), hs.tagOf h.ls.lt h.tls, hs.row h.es h.tes (hS 0 (by omega) (by omega) (by omega)), hs.tagOf h.es.lt h.tes, ht, hs.at_ h.times h.tt,
    fun j hj => (h.old j hj).step hs (hS 0 (by omega) (by omega) (by omega)) (hS _ (by omega) (by omega) (by omega)) (eT j hj 0 (by omega)) (eT j hj 1 (by omega)),
    fun j hj => (h.rec_ j hj).step hs (hS 0 (by omega) (by omega) (by omega)) (eR j hj), fun j hj => (h.snd j hj).step hs (hS 0 (by omega) (by omega) (by omega)) (eT j hj 2 (by omega))⟩

/-- .. and of entry i: the processes, the record, the messages sent (not yet in the tables). -/
structure Bm (w : World) (br : Nat) (R : Nat → Value) (rb re lb eb k : Nat) (ev : Nat → Nat) (tm : Option Addr) (l : Nat → Nat) (i : Nat) (pb c sb d : Nat) (W : World) (tag : Nat → Nat) (TF RF : Nat → Value) (A : Nat → Nat → Addr) (Ai : Nat → Addr) : Prop where
  bi : Bi w br R rb re lb eb k ev tm l i W tag TF RF A
  le : l i ≤ c
  p : Own W 58 1 (some ⟨pb, 0, none⟩) c c (pf (l i) Ai)
  tp : tag pb = 0
  ra : ∃ ra, RF i = .slice ra (l i) (l i) ∧ Own W 58 1 ra (l i) (l i) (pf (l i) Ai) ∧ At tag ra 0
  s : ∃ f, W.rowIs sb 20 d f
  ts : tag sb = 6 + i

section
variable {w W W1 : World} {tag : Nat → Nat} {br rb re lb eb k i : Nat} {ev : Nat → Nat} {R TF RF : Nat → Value} {tm : Option Addr} {l : Nat → Nat} {A : Nat → Nat → Addr}

/-- The call of 'procs', the record's store, the make. -/
theorem bm_start (h : Bi w br R rb re lb eb k ev tm l i W tag TF RF A) (hi : i ≤ 300) {c d : Nat} {Ai : Nat → Addr} (hl : l i ≤ c) (hp : Own W1 58 1 (some ⟨W.heap.size, 0, none⟩) c c (pf (l i) Ai)) (hr : Own W1 58 1 (some ⟨W.heap.size + 1, 0, none⟩) (l i) (l i) (pf (l i) Ai)) (hb : Below W.heap.size W W1) (hs : W.heap.size + 1 < W1.heap.size) :
    ∃ tag' RF', Bm w br R rb re lb eb k ev tm l i W.heap.size c W1.heap.size d ((W1.setCell ⟨rb, i, none⟩ (.slice (some ⟨W.heap.size + 1, 0, none⟩) (l i) (l i))).alloc (Arw d)) tag' TF RF' A Ai := by
  have s1 : Step (fun t => t = 1000 ∨ t = 6 + i) W tag W1 (tg tag W.heap.size 0) := Step.below hb 0
  have t1 : tg tag W.heap.size 0 rb = 1000 := s1.tagOf h.recs.lt h.trb
  have s2 : Step (fun t => t = 1000 ∨ t = 6 + i) W1 (tg tag W.heap.size 0) (W1.setCell ⟨rb, i, none⟩ (.slice (some ⟨W.heap.size + 1, 0, none⟩) (l i) (l i))) (tg tag W.heap.size 0) := Step.setCell _ (.inl t1)
  have s3 : Step (fun t => t = 1000 ∨ t = 6 + i) (W1.setCell ⟨rb, i, none⟩ (.slice (some ⟨W.heap.size + 1, 0, none⟩) (l i) (l i))) (tg tag W.heap.size 0) _ _ := Step.alloc (Arw d) (6 + i)
  have s := (s1.trans s2).trans s3
  have s23 := s2.trans s3
  have r1 : W1.rowIs rb re 2 RF := h.recs.of_block (hb.block _ h.recs.lt)
  have e1 : (W1.setCell ⟨rb, i, none⟩ (.slice (some ⟨W.heap.size + 1, 0, none⟩) (l i) (l i))).heap.size = W1.heap.size := by simp
  refine ⟨_, upd RF i (.slice (some ⟨W.heap.size + 1, 0, none⟩) (l i) (l i)), h.move s (fun t a b c => by omega) ((r1.set i _).alloc _) (s.own h.times h.tt (by omega)) (fun _ _ _ _ => rfl) (fun j hj => upd_other _ (by omega)) hi, hl, ?_, ?_, ⟨_, upd_same _ _ _, ?_, ?_⟩, ?_, ?_⟩
  · exact s23.own hp (t := 0) (fun a ha => by obtain rfl := Option.some.inj ha; exact tg_new (Nat.le_refl _)) (by omega)
  · rw [e1, tg_old (by omega), tg_new (Nat.le_refl _)]
  · exact s23.own hr (t := 0) (fun a ha => by obtain rfl := Option.some.inj ha; exact tg_new (by show _ ≤ _ + 1; omega)) (by omega)
  · intro a ha
    obtain rfl := Option.some.inj ha
    rw [e1]
    exact (tg_old hs).trans (tg_new (by show _ ≤ _ + 1; omega))
  · have := made_row (W1.setCell ⟨rb, i, none⟩ (.slice (some ⟨W.heap.size + 1, 0, none⟩) (l i) (l i))) #[.nilIface] d 20 (by simp)
    rw [e1] at this
    exact this
  · rw [e1]; exact tg_new (Nat.le_refl _)

/-- A store into the row of the messages sent. -/
theorem Bm.put {pb c sb d : Nat} {Ai : Nat → Addr} (h : Bm w br R rb re lb eb k ev tm l i pb c sb d W tag TF RF A Ai) (hi : i ≤ 300) (q : Nat) (v : Value) : Bm w br R rb re lb eb k ev tm l i pb c sb d (W.setCell ⟨sb, q, none⟩ v) tag TF RF A Ai := by
  have s : Step (fun t => t = 6 + i) W tag (W.setCell ⟨sb, q, none⟩ v) tag := Step.setCell _ h.ts
  obtain ⟨ra, r1, r2, r3⟩ := h.ra
  obtain ⟨f, hf⟩ := h.s
  exact ⟨h.bi.move s (fun t a b c => by omega) (s.row h.bi.recs h.bi.trb (by omega)) (s.own h.bi.times h.bi.tt (by omega)) (fun _ _ _ _ => rfl) (fun _ _ => rfl) hi, h.le, s.own h.p (t := 0) (fun a ha => by obtain rfl := Option.some.inj ha; exact h.tp) (by omega), h.tp, ⟨ra, r1, s.own r2 r3 (by omega), r3⟩, ⟨_, hf.set q v⟩, h.ts⟩

/-- The three stores into the times' table: entry i is laid. -/
theorem Bm.done {pb c sb d g : Nat} {Ai : Nat → Addr} (h : Bm w br R rb re lb eb k ev (some ⟨g, 0, none⟩) l i pb c sb d W tag TF RF A Ai) (hi : i < k) (hk : k ≤ 300) (hd : d ≤ 4000) :
    ∃ tag' TF', Bi w br R rb re lb eb k ev (some ⟨g, 0, none⟩) l (i + 1) ((((W.setCell ⟨g, i * 6, none⟩ (.slice (some ⟨pb, 0, none⟩) (l i) c)).setCell ⟨g, i * 6 + 1, none⟩ (.slice (some ⟨sb, 0, none⟩) d d)).setCell ⟨g, i * 6 + 2, none⟩ (.slice (some ⟨W.heap.size, 0, none⟩) 1 1)).alloc (.cells #[.int .i64 i] 3)) tag' TF' RF (updA A i Ai) := by
  have tgt : tag g = 2 := h.bi.tt ⟨g, 0, none⟩ rfl
  have s1 : Step (fun t => t = 2) W tag (W.setCell ⟨g, i * 6, none⟩ (.slice (some ⟨pb, 0, none⟩) (l i) c)) tag := Step.setCell _ tgt
  have s2 : Step (fun t => t = 2) (W.setCell ⟨g, i * 6, none⟩ (.slice (some ⟨pb, 0, none⟩) (l i) c)) tag ((W.setCell ⟨g, i * 6, none⟩ (.slice (some ⟨pb, 0, none⟩) (l i) c)).setCell ⟨g, i * 6 + 1, none⟩ (.slice (some ⟨sb, 0, none⟩) d d)) tag := Step.setCell _ tgt
  have s3 : Step (fun t => t = 2) ((W.setCell ⟨g, i * 6, none⟩ (.slice (some ⟨pb, 0, none⟩) (l i) c)).setCell ⟨g, i * 6 + 1, none⟩ (.slice (some ⟨sb, 0, none⟩) d d)) tag (((W.setCell ⟨g, i * 6, none⟩ (.slice (some ⟨pb, 0, none⟩) (l i) c)).setCell ⟨g, i * 6 + 1, none⟩ (.slice (some ⟨sb, 0, none⟩) d d)).setCell ⟨g, i * 6 + 2, none⟩ (.slice (some ⟨W.heap.size, 0, none⟩) 1 1)) tag := Step.setCell _ tgt
  have s4 : Step (fun t => t = 2) (((W.setCell ⟨g, i * 6, none⟩ (.slice (some ⟨pb, 0, none⟩) (l i) c)).setCell ⟨g, i * 6 + 1, none⟩ (.slice (some ⟨sb, 0, none⟩) d d)).setCell ⟨g, i * 6 + 2, none⟩ (.slice (some ⟨W.heap.size, 0, none⟩) 1 1)) tag _ _ := Step.alloc (.cells #[.int .i64 i] 3) 0
  have s := ((s1.trans s2).trans s3).trans s4
  have ot := (((h.bi.times.put (i * 6) (.slice (some ⟨pb, 0, none⟩) (l i) c)).put (i * 6 + 1) (.slice (some ⟨sb, 0, none⟩) d d)).put (i * 6 + 2) (.slice (some ⟨W.heap.size, 0, none⟩) 1 1)).alloc (.cells #[.int .i64 i] 3)
  have b := h.bi.move s (fun t a b c => by omega) (s.row h.bi.recs h.bi.trb (by omega)) ot (fun j hj c hc => (upd_other _ (by omega)).trans ((upd_other _ (by omega)).trans (upd_other _ (by omega)))) (fun _ _ => rfl) (by omega)
  obtain ⟨ra, r1, r2, r3⟩ := h.ra
  obtain ⟨f, hf⟩ := h.s
  have e1 : (((W.setCell ⟨g, i * 6, none⟩ (.slice (some ⟨pb, 0, none⟩) (l i) c)).setCell ⟨g, i * 6 + 1, none⟩ (.slice (some ⟨sb, 0, none⟩) d d)).setCell ⟨g, i * 6 + 2, none⟩ (.slice (some ⟨W.heap.size, 0, none⟩) 1 1)).heap.size = W.heap.size := by simp
  have tpa : At tag (some ⟨pb, 0, none⟩) 0 := fun a ha => by obtain rfl := Option.some.inj ha; exact h.tp
  refine ⟨_, _, b.bs, b.recs, b.trb, b.ls, b.tls, b.es, b.tes, b.times, b.tt, fun j hj => ?_, fun j hj => ?_, fun j hj => ?_⟩
  · by_cases e : j = i
    · subst e
      refine ⟨_, _, _, _, _, _, f, (upd_other _ (by omega)).trans ((upd_other _ (by omega)).trans (upd_same _ _ _)), (upd_other _ (by omega)).trans (upd_same _ _ _), h.le, ?_, s.at_ h.p tpa, s.own (t := 6 + j) (own_row hf hd) (fun a ha => by obtain rfl := Option.some.inj ha; exact h.ts) (by omega), s.at_ (own_row hf hd) (fun a ha => by obtain rfl := Option.some.inj ha; exact h.ts)⟩
      rw [updA_same]
      exact s.own h.p tpa (by omega)
    · have q := b.old j (by omega)
      unfold OldE at q ⊢
      rw [updA_other e]
      exact q
  · by_cases e : j = i
    · subst e
      refine ⟨ra, r1, ?_, s.at_ r2 r3⟩
      rw [updA_same]
      exact s.own r2 r3 (by omega)
    · have q := b.rec_ j (by omega)
      unfold Rec at q ⊢
      rw [updA_other e]
      exact q
  · by_cases e : j = i
    · subst e
      refine ⟨W.heap.size, upd_same _ _ _, ?_, by rw [e1]; exact tg_new (Nat.le_refl _)⟩
      have q := World.rowIs_alloc (((W.setCell ⟨g, j * 6, none⟩ (.slice (some ⟨pb, 0, none⟩) (l j) c)).setCell ⟨g, j * 6 + 1, none⟩ (.slice (some ⟨sb, 0, none⟩) d d)).setCell ⟨g, j * 6 + 2, none⟩ (.slice (some ⟨W.heap.size, 0, none⟩) 1 1)) #[.int .i64 j] 3 (fun _ => .int .i64 j) fun i hi => by
        match i, hi with
        | 0, _ => rfl
      rw [e1] at q
      exact q
    · exact b.snd j (by omega)
end

theorem Bi.drew {w W : World} {tag : Nat → Nat} {br rb re lb eb k i : Nat} {ev : Nat → Nat} {R TF RF : Nat → Value} {tm : Option Addr} {l : Nat → Nat} {A : Nat → Nat → Addr} (h : Bi w br R rb re lb eb k ev tm l i W tag TF RF A) (hi : i ≤ 300) : Bi w br R rb re lb eb k ev tm l i W.drew tag TF RF A :=
  h.move (Step.drew (Step.refl (S := fun _ => False))) (fun _ _ _ _ h => h) h.recs h.times (fun _ _ _ _ => rfl) (fun _ _ => rfl) hi
theorem Bm.drew {w W : World} {tag : Nat → Nat} {br rb re lb eb k i pb c sb d : Nat} {ev : Nat → Nat} {R TF RF : Nat → Value} {tm : Option Addr} {l : Nat → Nat} {A : Nat → Nat → Addr} {Ai : Nat → Addr} (h : Bm w br R rb re lb eb k ev tm l i pb c sb d W tag TF RF A Ai) (hi : i ≤ 300) : Bm w br R rb re lb eb k ev tm l i pb c sb d W.drew tag TF RF A Ai :=
  ⟨h.bi.drew hi, h.le, h.p, h.tp, h.ra, h.s, h.ts⟩

/-- The tables are made, no entry, no numbers yet. -/
structure B2 (w : World) (br : Nat) (R : Nat → Value) (rb k : Nat) (tm : Option Addr) (W : World) (tag : Nat → Nat) (TF RF : Nat → Value) : Prop where
  bs : Bs w br R W tag
  recs : W.rowIs rb 42 2 RF
  trb : tag rb = 1000
  times : Own W 50 6 tm k k TF
  tt : At tag tm 2

theorem recs_row {w W : World} {br : Nat} {R : Nat → Value} {tag : Nat → Nat} (h : Bs w br R W tag) :
    Bs w br R (W.alloc (.cells #[.slice none 0 0, .slice none 0 0] 42)) (tg tag W.heap.size 1000) ∧ (W.alloc (.cells #[.slice none 0 0, .slice none 0 0] 42)).rowIs W.heap.size 42 2 (fun _ => .slice none 0 0) ∧ tg tag W.heap.size 1000 W.heap.size = 1000 := by
  refine ⟨h.step (Step.alloc (S := fun _ => False) _ 1000) (fun _ _ _ h => h), World.rowIs_alloc W #[.slice none 0 0, .slice none 0 0] 42 _ fun i hi => ?_, tg_new (Nat.le_refl _)⟩
  match i, hi with
  | 0, _ => rfl
  | 1, _ => rfl

theorem b2_none {w W : World} {br rb : Nat} {R RF : Nat → Value} {tag : Nat → Nat} (h : Bs w br R W tag) (hr : W.rowIs rb 42 2 RF) (ht : tag rb = 1000) : B2 w br R rb 0 none W tag (fun _ => .nilIface) RF :=
  ⟨h, hr, ht, .inl ⟨rfl, rfl, rfl⟩, (fun a ha => by cases ha)⟩

theorem b2_zero {w W : World} {br k rb : Nat} {R RF : Nat → Value} {tag : Nat → Nat} (h : Bs w br R W tag) (hr : W.rowIs rb 42 2 RF) (ht : tag rb = 1000) (hb : w.heap.size ≤ br) (hne : rb ≠ br) (hk : k ≤ 300) :
    ∃ tag' TF, B2 w br (upd R 19 (.slice (some ⟨W.heap.size, 0, none⟩) k k)) rb k (some ⟨W.heap.size, 0, none⟩) ((W.setCell ⟨br, 19, none⟩ (.slice (some ⟨W.heap.size, 0, none⟩) k k)).alloc (Trw k)) tag' TF RF := by
  have b := h.set19 hb (.slice (some ⟨W.heap.size, 0, none⟩) k k)
  have s : Step (fun _ => False) (W.setCell ⟨br, 19, none⟩ (.slice (some ⟨W.heap.size, 0, none⟩) k k)) tag _ _ := Step.alloc (Trw k) 2
  have e1 : (W.setCell ⟨br, 19, none⟩ (.slice (some ⟨W.heap.size, 0, none⟩) k k)).heap.size = W.heap.size := by simp
  obtain ⟨f, hf⟩ := made_row (W.setCell ⟨br, 19, none⟩ (.slice (some ⟨W.heap.size, 0, none⟩) k k)) #[.slice none 0 0, .slice none 0 0, .slice none 0 0, .slice none 0 0, .slice none 0 0, .slice none 0 0] (k * 6) 50 (by simp)
  rw [e1] at hf
  refine ⟨_, f, b.step s (fun _ _ _ h => h), (hr.setOther hne _).alloc _, s.tagOf (hr.setOther hne _).lt ht, own_rows hf (by omega), fun a ha => ?_⟩
  obtain rfl := Option.some.inj ha
  rw [e1]
  exact tg_new (Nat.le_refl _)

theorem two_row (W : World) (a b : Nat) : (W.alloc (.cells #[.int .i64 a, .int .i64 b] 43)).rowIs W.heap.size 43 2 (fun j => .int .i64 ((if j = 0 then a else b : Nat) : Int)) :=
  World.rowIs_alloc W #[.int .i64 a, .int .i64 b] 43 _ fun i hi => by
    match i, hi with
    | 0, _ => rfl
    | 1, _ => rfl

/-- The two arrays of numbers. -/
theorem bi_of {w W : World} {br k rb : Nat} {R TF RF : Nat → Value} {tag : Nat → Nat} {tm : Option Addr} {A : Nat → Nat → Addr} (h : B2 w br R rb k tm W tag TF RF) (l0 l1 f0 f1 : Nat) :
    ∃ tag', Bi w br R rb 42 W.heap.size (W.heap.size + 1) k (fun j => if j = 0 then f0 else f1) tm (fun j => if j = 0 then l0 else l1) 0 ((W.alloc (.cells #[.int .i64 l0, .int .i64 l1] 43)).alloc (.cells #[.int .i64 f0, .int .i64 f1] 43)) tag' TF RF A := by
  have s1 : Step (fun _ => False) W tag (W.alloc (.cells #[.int .i64 l0, .int .i64 l1] 43)) (tg tag W.heap.size 0) := Step.alloc _ 0
  have s2 : Step (fun _ => False) (W.alloc (.cells #[.int .i64 l0, .int .i64 l1] 43)) (tg tag W.heap.size 0) ((W.alloc (.cells #[.int .i64 l0, .int .i64 l1] 43)).alloc (.cells #[.int .i64 f0, .int .i64 f1] 43)) (tg (tg tag W.heap.size 0) (W.alloc (.cells #[.int .i64 l0, .int .i64 l1] 43)).heap.size 0) := Step.alloc _ 0
  have s := s1.trans s2
  have e1 : (W.alloc (.cells #[.int .i64 l0, .int .i64 l1] 43)).heap.size = W.heap.size + 1 := by simp
  have r1 := two_row W l0 l1
  have r2 := two_row (W.alloc (.cells #[.int .i64 l0, .int .i64 l1] 43)) f0 f1
  have t2 : tg (tg tag W.heap.size 0) (W.alloc (.cells #[.int .i64 l0, .int .i64 l1] 43)).heap.size 0 (W.heap.size + 1) = 0 := tg_new (by omega)
  rw [e1] at r2
  exact ⟨_, h.bs.step s (fun _ _ _ h => h), s.row h.recs h.trb (fun h => h), s.tagOf h.recs.lt h.trb, r1.alloc _, s2.tagOf r1.lt (tg_new (Nat.le_refl _)), r2, t2, s.own h.times h.tt (fun h => h), s.at_ h.times h.tt, fun j hj => by omega, fun j hj => by omega, fun j hj => by omega⟩
end Go.Proofs.Ybulkdejs.Pl
