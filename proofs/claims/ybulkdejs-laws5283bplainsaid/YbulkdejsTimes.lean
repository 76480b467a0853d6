/-
  THE TIME TABLES: what an entry holds before and after 'resize''s round.
-/
import Derived.Test.YbulkdejsStep
namespace Go.Proofs.Ybulkdejs
open Go.RowKit Go.Deep
set_option linter.unusedVariables false
set_option linter.unusedSimpArgs false

/-- A store into the row of an own slice. -/
theorem Own.put {w : World} {e size : Nat} {g n cap : Nat} {f : Nat → Value} (h : Own w e size (some ⟨g, 0, none⟩) n cap f) (k : Nat) (v : Value) : Own (w.setCell ⟨g, k, none⟩ v) e size (some ⟨g, 0, none⟩) n cap (upd f k v) := by
  rcases h with ⟨h, _⟩ | ⟨g', cur, h1, h2, h3, h4, h5, h6⟩
  · cases h
  obtain rfl : g = g' := by simpa using h1
  refine .inr ⟨g, cur.setIfInBounds k v, rfl, ?_, h3, h4, by simpa using h5, fun j hj => ?_⟩
  · simp [World.setCell, Array.getElem?_modify, h2]
  · have hle : n * size ≤ cap * size := Nat.mul_le_mul_right _ h3
    rw [Array.getElem?_setIfInBounds]
    by_cases e : j = k
    · subst e
      rw [upd_same]
      simp
      omega
    · rw [if_neg (fun h => e h.symm), upd_other _ e]
      exact h6 j hj

/-- Entry j, not yet met. -/
def OldE (W : World) (tag : Nat → Nat) (TF : Nat → Value) (l : Nat → Nat) (A : Nat → Nat → Addr) (j : Nat) : Prop :=
  ∃ pa pm pc sa sm sc f, TF (j * 6) = .slice pa pm pc ∧ TF (j * 6 + 1) = .slice sa sm sc ∧ l j ≤ pc ∧ Own W 58 1 pa pc pc (pf (l j) (A j)) ∧ At tag pa 0 ∧ Own W 20 1 sa sc sc f ∧ At tag sa (6 + j)

/-- Entry j, resized. -/
def NewE (W : World) (tag : Nat → Nat) (TF : Nat → Value) (l : Nat → Nat) (A : Nat → Nat → Addr) (n j : Nat) : Prop :=
  ∃ pa pc sa sc, TF (j * 6) = .slice pa n pc ∧ TF (j * 6 + 1) = .slice sa n sc ∧ Own W 58 1 pa n pc (pf (l j) (A j)) ∧ At tag pa 0 ∧ Own W 20 1 sa n sc (zf 1 zAny) ∧ At tag sa (6 + j)

theorem OldE.step {S : Nat → Prop} {W W' : World} {tag tag' : Nat → Nat} {TF TF' : Nat → Value} {l : Nat → Nat} {A : Nat → Nat → Addr} {j : Nat} (h : OldE W tag TF l A j) (hs : Step S W tag W' tag') (h0 : ¬ S 0) (hj : ¬ S (6 + j)) (e0 : TF' (j * 6) = TF (j * 6)) (e1 : TF' (j * 6 + 1) = TF (j * 6 + 1)) : OldE W' tag' TF' l A j := by
  obtain ⟨pa, pm, pc, sa, sm, sc, f, h1, h2, h3, h4, h5, h6, h7⟩ := h
  exact ⟨pa, pm, pc, sa, sm, sc, f, e0.trans h1, e1.trans h2, h3, hs.own h4 h5 h0, hs.at_ h4 h5, hs.own h6 h7 hj, hs.at_ h6 h7⟩

theorem NewE.step {S : Nat → Prop} {W W' : World} {tag tag' : Nat → Nat} {TF TF' : Nat → Value} {l : Nat → Nat} {A : Nat → Nat → Addr} {n j : Nat} (h : NewE W tag TF l A n j) (hs : Step S W tag W' tag') (h0 : ¬ S 0) (hj : ¬ S (6 + j)) (e0 : TF' (j * 6) = TF (j * 6)) (e1 : TF' (j * 6 + 1) = TF (j * 6 + 1)) : NewE W' tag' TF' l A n j := by
  obtain ⟨pa, pc, sa, sc, h1, h2, h4, h5, h6, h7⟩ := h
  exact ⟨pa, pc, sa, sc, e0.trans h1, e1.trans h2, hs.own h4 h5 h0, hs.at_ h4 h5, hs.own h6 h7 hj, hs.at_ h6 h7⟩

/-- i entries are resized. -/
structure LI (w1 : World) (tag1 : Nat → Nat) (K n : Nat) (l : Nat → Nat) (A : Nat → Nat → Addr) (TF1 : Nat → Value) (tao : Option Addr) (cap i : Nat) (W : World) (tag : Nat → Nat) (TF : Nat → Value) : Prop where
  step : Step (fun t => t = 2 ∨ (6 ≤ t ∧ t < 6 + K)) w1 tag1 W tag
  own : Own W 50 6 tao cap cap TF
  at_ : At tag tao 2
  new : ∀ j, j < i → NewE W tag TF l A n j
  old : ∀ j, i ≤ j → j < K → OldE W tag TF l A j
  rest : ∀ j, j < K → ∀ c, 2 ≤ c → c < 6 → TF (j * 6 + c) = TF1 (j * 6 + c)

/-- .. and of entry i the processes. -/
structure MI (w1 : World) (tag1 : Nat → Nat) (K n : Nat) (l : Nat → Nat) (A : Nat → Nat → Addr) (TF1 : Nat → Value) (tao : Option Addr) (cap i : Nat) (ro : Option Addr) (rc : Nat) (sa : Option Addr) (sm sc : Nat) (f : Nat → Value) (W : World) (tag : Nat → Nat) (TF : Nat → Value) : Prop where
  step : Step (fun t => t = 2 ∨ (6 ≤ t ∧ t < 6 + K)) w1 tag1 W tag
  own : Own W 50 6 tao cap cap TF
  at_ : At tag tao 2
  new : ∀ j, j < i → NewE W tag TF l A n j
  p : TF (i * 6) = .slice ro n rc
  po : Own W 58 1 ro n rc (pf (l i) (A i))
  pt : At tag ro 0
  s : TF (i * 6 + 1) = .slice sa sm sc
  so : Own W 20 1 sa sc sc f
  st : At tag sa (6 + i)
  old : ∀ j, i < j → j < K → OldE W tag TF l A j
  rest : ∀ j, j < K → ∀ c, 2 ≤ c → c < 6 → TF (j * 6 + c) = TF1 (j * 6 + c)

theorem zPrc0 : zPrc[0]! = .nilIface := by rfl

theorem ext_pf {l pc : Nat} {A : Nat → Addr} (h : l ≤ pc) (j : Nat) : ext 1 zPrc (pc * 1) (pf l A) j = pf l A j := by
  unfold ext
  by_cases hj : j < pc * 1
  · rw [if_pos hj]
  · rw [if_neg hj, Nat.mod_one, zPrc0]
    unfold pf
    rw [if_neg (by omega)]

section
variable {w1 W W1 : World} {tag1 tag : Nat → Nat} {K n cap i : Nat} {l : Nat → Nat} {A : Nat → Nat → Addr} {TF1 TF : Nat → Value} {g : Nat}

theorem LI.grow (h : LI w1 tag1 K n l A TF1 (some ⟨g, 0, none⟩) cap i W tag TF) (hi : i < K) {pa : Option Addr} {pc : Nat} {sa : Option Addr} {sm sc : Nat} {f : Nat → Value} (hl : l i ≤ pc) (hp : Own W 58 1 pa pc pc (pf (l i) (A i))) (ht : At tag pa 0)
    (hs1 : TF (i * 6 + 1) = .slice sa sm sc) (hso : Own W 20 1 sa sc sc f) (hst : At tag sa (6 + i))
    {ro : Option Addr} {rc : Nat} (hn : n ≤ rc) (ho : Own W1 58 1 ro rc rc (ext 1 zPrc (pc * 1) (pf (l i) (A i)))) (hg : W.grownBy W1 none) (hne : ro = pa ∨ ∃ g, ro = some ⟨g, 0, none⟩ ∧ W.heap.size ≤ g) :
    MI w1 tag1 K n l A TF1 (some ⟨g, 0, none⟩) cap i ro rc sa sm sc f (W1.setCell ⟨g, i * 6, none⟩ (.slice ro n rc)) (tg tag W.heap.size 0) (upd TF (i * 6) (.slice ro n rc)) := by
  have s1 : Step (fun t => t = 2) W tag W1 (tg tag W.heap.size 0) := Step.grew hg 0
  have t1 : At (tg tag W.heap.size 0) (some ⟨g, 0, none⟩) 2 := s1.at_ h.own h.at_
  have s2 : Step (fun t => t = 2) W1 (tg tag W.heap.size 0) (W1.setCell ⟨g, i * 6, none⟩ (.slice ro n rc)) (tg tag W.heap.size 0) := Step.setCell _ (t1 ⟨g, 0, none⟩ rfl)
  have s := s1.trans s2
  have o1 : Own W1 50 6 (some ⟨g, 0, none⟩) cap cap TF := h.own.of_block fun a ha => hg.block _ (h.own.lt a ha) (by simp)
  have tr : At (tg tag W.heap.size 0) ro 0 := at_new hp ht hne
  refine ⟨h.step.trans (s.mono fun t ht => .inl ht), o1.put _ _, t1, fun j hj => (h.new j hj).step s (by decide) (by omega) (upd_other _ (by omega)) (upd_other _ (by omega)), upd_same _ _ _, ?_, tr, (upd_other _ (by omega)).trans hs1, s.own hso hst (by omega), s.at_ hso hst,
    fun j hj hk => (h.old j (by omega) hk).step s (by decide) (by omega) (upd_other _ (by omega)) (upd_other _ (by omega)), fun j hj c h2 h6 => (upd_other _ (by omega)).trans (h.rest j hj c h2 h6)⟩
  exact s2.own ((ho.shrink hn).congr fun j _ => ext_pf hl j) tr (by decide)

theorem MI.size {ro : Option Addr} {rc : Nat} {sa : Option Addr} {sm sc : Nat} {f : Nat → Value} (h : MI w1 tag1 K n l A TF1 (some ⟨g, 0, none⟩) cap i ro rc sa sm sc f W tag TF) (hi : i < K) {so : Option Addr} {kc : Nat} (ho : Own W1 20 1 so n kc (zf 1 zAny)) (hg : W.grownBy W1 (blk sa)) (hne : so = sa ∨ ∃ g, so = some ⟨g, 0, none⟩ ∧ W.heap.size ≤ g) :
    LI w1 tag1 K n l A TF1 (some ⟨g, 0, none⟩) cap (i + 1) (W1.setCell ⟨g, i * 6 + 1, none⟩ (.slice so n kc)) (tg tag W.heap.size (6 + i)) (upd TF (i * 6 + 1) (.slice so n kc)) := by
  have s1 : Step (fun t => t = 2 ∨ t = 6 + i) W tag W1 (tg tag W.heap.size (6 + i)) := Step.grown hg h.st (.inr rfl) _
  have s1' : Step (fun t => t = 6 + i) W tag W1 (tg tag W.heap.size (6 + i)) := Step.grown (S := fun t => t = 6 + i) hg h.st rfl _
  have t1 : At (tg tag W.heap.size (6 + i)) (some ⟨g, 0, none⟩) 2 := s1.at_ h.own h.at_
  have s2 : Step (fun t => t = 2 ∨ t = 6 + i) W1 (tg tag W.heap.size (6 + i)) (W1.setCell ⟨g, i * 6 + 1, none⟩ (.slice so n kc)) (tg tag W.heap.size (6 + i)) := Step.setCell _ (.inl (t1 ⟨g, 0, none⟩ rfl))
  have s2' : Step (fun t => t = 2) W1 (tg tag W.heap.size (6 + i)) (W1.setCell ⟨g, i * 6 + 1, none⟩ (.slice so n kc)) (tg tag W.heap.size (6 + i)) := Step.setCell _ (t1 ⟨g, 0, none⟩ rfl)
  have s := s1.trans s2
  have o1 : Own W1 50 6 (some ⟨g, 0, none⟩) cap cap TF := s1'.own h.own h.at_ (by omega)
  have tr : At (tg tag W.heap.size (6 + i)) so (6 + i) := at_new h.so h.st hne
  refine ⟨h.step.trans (s.mono fun t ht => by rcases ht with h | h; exact .inl h; exact .inr (by omega)), o1.put _ _, t1, fun j hj => ?_, fun j hj hk => (h.old j (by omega) hk).step s (by omega) (by omega) (upd_other _ (by omega)) (upd_other _ (by omega)), fun j hj c h2 h6 => (upd_other _ (by omega)).trans (h.rest j hj c h2 h6)⟩
  by_cases e : j = i
  · subst e
    exact ⟨ro, rc, so, kc, (upd_other _ (by omega)).trans h.p, upd_same _ _ _, s.own h.po h.pt (by omega), s.at_ h.po h.pt, s2'.own ho tr (by omega), tr⟩
  · exact (h.new j (by omega)).step s (by omega) (by omega) (upd_other _ (by omega)) (upd_other _ (by omega))
end
end Go.Proofs.Ybulkdejs
