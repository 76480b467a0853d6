/-
  WHAT HOLDS BEHIND 'p.copyFrom(q)' in LawS5283CCopy, and that it goes on behind stores into p's own tables.
-/
import Derived.Test.YbulkdejsSelfWalk
namespace Go.Proofs.Ybulkdejs
open Go.RowKit Go.Deep
set_option linter.unusedVariables false
set_option linter.unusedSimpArgs false

theorem Own.set {w : World} {e size g n cap j : Nat} {f : Nat → Value} (h : Own w e size (some ⟨g, 0, none⟩) n cap f) (v : Value) : Own (w.setCell ⟨g, j, none⟩ v) e size (some ⟨g, 0, none⟩) n cap (fun i => if i = j then v else f i) := by
  rcases h with ⟨h, _⟩ | ⟨g', cur, h1, h2, h3, h4, h5, h6⟩
  · cases h
  · simp at h1
    subst h1
    refine .inr ⟨g, cur.setIfInBounds j v, rfl, ?_, h3, h4, by simpa using h5, fun i hi => ?_⟩
    · simp [World.setCell, Array.getElem?_modify, h2]
    · have hle : n * size ≤ cap * size := Nat.mul_le_mul_right _ h3
      rw [Array.getElem?_setIfInBounds]
      by_cases e' : j = i
      · subst e'
        rw [if_pos rfl, if_pos (by omega)]
        simp
      · have e2 : ¬ i = j := fun h => e' h.symm
        rw [if_neg e']
        simp only [e2, if_false]
        exact h6 i hi

/-- A process lies as it lay. -/
theorem Proc.later {w w' : World} {bp : Nat} {z : Zp} {v a c t : Option Addr} {kv ka kc kt : Nat} (h : Proc w bp z v a c t kv ka kc kt) (hb : Below w.heap.size w w') : Proc w' bp z v a c t kv ka kc kt :=
  ⟨h.head.of_block (hb.block _ h.head.lt), h.rv.below' hb, h.ra.below' hb, h.rc.below' hb, h.rt.below' hb, h.fv, h.fa, h.fc, h.ft, h.va, h.vc, h.vt, h.ac, h.at_, h.ct⟩

/-- The blocks of one slice lie apart from a block, and from four slices. -/
structure Clear (x : Option Addr) (B bp bq : Nat) (vq aq cq tq : Option Addr) : Prop where
  lo : ∀ a, x = some a → B < a.block
  op : Off x bp
  oq : Off x bq
  v : Apart x vq
  a : Apart x aq
  c : Apart x cq
  t : Apart x tq

structure Good (w : World) (z : Zp) (bp bq : Nat) (r1 ap r2 r3 vq aq cq tq : Option Addr) (k1 kap k2 k3 kvq kaq kcq ktq : Nat) (f1 f2 f3 : Nat → Value) (W : World) : Prop where
  hp : W.rowIs bp 74 11 (pcell z.N z.T z.S z.I (.slice r1 z.nv k1) z.Lo z.Re z.He (.slice ap 0 kap) (.slice r2 z.nc k2) (.slice r3 z.nt k3))
  hq : W.rowIs bq 74 11 (pcell z.N z.T z.S z.I (.slice vq z.nv kvq) z.Lo z.Re z.He (.slice aq z.na kaq) (.slice cq z.nc kcq) (.slice tq z.nt ktq))
  box : W.rowIs (w.heap.size + 1) 65 11 (zcell z)
  o1 : Own W 3 1 r1 z.nv k1 f1
  o2 : Own W 77 4 r2 z.nc k2 f2
  o3 : Own W 3 1 r3 z.nt k3 f3
  qv : Own W 3 1 vq z.nv kvq (fI z.fV)
  qa : Own W 3 1 aq z.na kaq (fI z.fA)
  qc : Own W 77 4 cq z.nc kcq (quadF z.cL z.cV z.cH z.cR)
  qt : Own W 3 1 tq z.nt ktq (fI z.fT)
  bel : Below w.heap.size w W
  c1 : Clear r1 (w.heap.size + 1) bp bq vq aq cq tq
  c2 : Clear r2 (w.heap.size + 1) bp bq vq aq cq tq
  c3 : Clear r3 (w.heap.size + 1) bp bq vq aq cq tq
  a12 : Apart r1 r2
  a13 : Apart r1 r3
  a23 : Apart r2 r3

section
variable {w W W' : World} {z : Zp} {bp bq : Nat} {r1 ap r2 r3 vq aq cq tq : Option Addr} {k1 kap k2 k3 kvq kaq kcq ktq : Nat} {f1 f2 f3 : Nat → Value}

theorem Good.later (h : Good w z bp bq r1 ap r2 r3 vq aq cq tq k1 kap k2 k3 kvq kaq kcq ktq f1 f2 f3 W) (hb : Below W.heap.size W W') : Good w z bp bq r1 ap r2 r3 vq aq cq tq k1 kap k2 k3 kvq kaq kcq ktq f1 f2 f3 W' :=
  ⟨h.hp.of_block (hb.block _ h.hp.lt), h.hq.of_block (hb.block _ h.hq.lt), h.box.of_block (hb.block _ h.box.lt), h.o1.below' hb, h.o2.below' hb, h.o3.below' hb, h.qv.below' hb, h.qa.below' hb, h.qc.below' hb, h.qt.below' hb,
    h.bel.trans (hb.mono h.bel.size), h.c1, h.c2, h.c3, h.a12, h.a13, h.a23⟩

theorem off_set {x y : Option Addr} {g j : Nat} (hx : x = some ⟨g, 0, none⟩) (ha : Apart x y) : Off y (⟨g, j, none⟩ : Addr).block := fun a ha' e => ha ⟨g, 0, none⟩ a hx ha' e.symm

/-- A store into p's vector. -/
theorem Good.set1 {g j : Nat} (h : Good w z bp bq r1 ap r2 r3 vq aq cq tq k1 kap k2 k3 kvq kaq kcq ktq f1 f2 f3 W) (hr : r1 = some ⟨g, 0, none⟩) (v : Value) :
    ∃ f1', Good w z bp bq r1 ap r2 r3 vq aq cq tq k1 kap k2 k3 kvq kaq kcq ktq f1' f2 f3 (W.setCell ⟨g, j, none⟩ v) := by
  have hlo := h.c1.lo _ hr
  have hop := h.c1.op _ hr
  have hoq := h.c1.oq _ hr
  have ho1 := h.o1
  rw [hr] at ho1
  refine ⟨_, h.hp.setOther (by exact fun e => hop e.symm) _, h.hq.setOther (by exact fun e => hoq e.symm) _, h.box.setOther (by show w.heap.size + 1 ≠ g; simp at hlo; omega) _, by rw [hr]; exact ho1.set v, h.o2.setCell (p := ⟨g, j, none⟩) (off_set hr h.a12) _, h.o3.setCell (p := ⟨g, j, none⟩) (off_set hr h.a13) _,
    h.qv.setCell (p := ⟨g, j, none⟩) (off_set hr h.c1.v) _, h.qa.setCell (p := ⟨g, j, none⟩) (off_set hr h.c1.a) _, h.qc.setCell (p := ⟨g, j, none⟩) (off_set hr h.c1.c) _, h.qt.setCell (p := ⟨g, j, none⟩) (off_set hr h.c1.t) _,
    h.bel.setCell (p := ⟨g, j, none⟩) (by show w.heap.size ≤ g; simp at hlo; omega) _, h.c1, h.c2, h.c3, h.a12, h.a13, h.a23⟩

theorem Good.set2 {g j : Nat} (h : Good w z bp bq r1 ap r2 r3 vq aq cq tq k1 kap k2 k3 kvq kaq kcq ktq f1 f2 f3 W) (hr : r2 = some ⟨g, 0, none⟩) (v : Value) :
    ∃ f2', Good w z bp bq r1 ap r2 r3 vq aq cq tq k1 kap k2 k3 kvq kaq kcq ktq f1 f2' f3 (W.setCell ⟨g, j, none⟩ v) := by
  have hlo := h.c2.lo _ hr
  have hop := h.c2.op _ hr
  have hoq := h.c2.oq _ hr
  have ho2 := h.o2
  rw [hr] at ho2
  refine ⟨_, h.hp.setOther (by exact fun e => hop e.symm) _, h.hq.setOther (by exact fun e => hoq e.symm) _, h.box.setOther (by show w.heap.size + 1 ≠ g; simp at hlo; omega) _, h.o1.setCell (p := ⟨g, j, none⟩) (off_set hr h.a12.symm) _, by rw [hr]; exact ho2.set v, h.o3.setCell (p := ⟨g, j, none⟩) (off_set hr h.a23) _,
    h.qv.setCell (p := ⟨g, j, none⟩) (off_set hr h.c2.v) _, h.qa.setCell (p := ⟨g, j, none⟩) (off_set hr h.c2.a) _, h.qc.setCell (p := ⟨g, j, none⟩) (off_set hr h.c2.c) _, h.qt.setCell (p := ⟨g, j, none⟩) (off_set hr h.c2.t) _,
    h.bel.setCell (p := ⟨g, j, none⟩) (by show w.heap.size ≤ g; simp at hlo; omega) _, h.c1, h.c2, h.c3, h.a12, h.a13, h.a23⟩

theorem Good.set3 {g j : Nat} (h : Good w z bp bq r1 ap r2 r3 vq aq cq tq k1 kap k2 k3 kvq kaq kcq ktq f1 f2 f3 W) (hr : r3 = some ⟨g, 0, none⟩) (v : Value) :
    ∃ f3', Good w z bp bq r1 ap r2 r3 vq aq cq tq k1 kap k2 k3 kvq kaq kcq ktq f1 f2 f3' (W.setCell ⟨g, j, none⟩ v) := by
  have hlo := h.c3.lo _ hr
  have hop := h.c3.op _ hr
  have hoq := h.c3.oq _ hr
  have ho3 := h.o3
  rw [hr] at ho3
  refine ⟨_, h.hp.setOther (by exact fun e => hop e.symm) _, h.hq.setOther (by exact fun e => hoq e.symm) _, h.box.setOther (by show w.heap.size + 1 ≠ g; simp at hlo; omega) _, h.o1.setCell (p := ⟨g, j, none⟩) (off_set hr h.a13.symm) _, h.o2.setCell (p := ⟨g, j, none⟩) (off_set hr h.a23.symm) _, by rw [hr]; exact ho3.set v,
    h.qv.setCell (p := ⟨g, j, none⟩) (off_set hr h.c3.v) _, h.qa.setCell (p := ⟨g, j, none⟩) (off_set hr h.c3.a) _, h.qc.setCell (p := ⟨g, j, none⟩) (off_set hr h.c3.c) _, h.qt.setCell (p := ⟨g, j, none⟩) (off_set hr h.c3.t) _,
    h.bel.setCell (p := ⟨g, j, none⟩) (by show w.heap.size ≤ g; simp at hlo; omega) _, h.c1, h.c2, h.c3, h.a12, h.a13, h.a23⟩

/-- Behind the copy. -/
theorem good_of {w3 w4 : World} {zP : Zp} {vp cp tp : Option Addr} {kvp kcp ktp kapp : Nat} (hB : w.heap.size + 1 < bp) (hpq : bp < bq) (hs3 : bq < w3.heap.size)
    (P : Proc w3 bp zP vp ap cp tp kvp kapp kcp ktp) (lv : ∀ a, vp = some a → a.block < bq) (lc : ∀ a, cp = some a → a.block < bq) (lt : ∀ a, tp = some a → a.block < bq)
    (Q : Proc w3 bq z vq aq cq tq kvq kaq kcq ktq) (box : w3.rowIs (w.heap.size + 1) 65 11 (zcell z)) (bel : Below w.heap.size w w3)
    (hrow : w4.rowIs bp 74 11 (pcell z.N z.T z.S z.I (.slice r1 z.nv k1) z.Lo z.Re z.He (.slice ap 0 kap) (.slice r2 z.nc k2) (.slice r3 z.nt k3)))
    (o1 : Own w4 3 1 r1 z.nv k1 (fI z.fV)) (o2 : Own w4 77 4 r2 z.nc k2 (quadF z.cL z.cV z.cH z.cR)) (o3 : Own w4 3 1 r3 z.nt k3 (fI z.fT)) (n1 : NewOr w3 r1 vp) (n2 : NewOr w3 r2 cp) (n3 : NewOr w3 r3 tp)
    (a12 : Apart r1 r2) (a13 : Apart r1 r3) (a23 : Apart r2 r3) (hl : Left3 w3 w4 bp vp cp tp) :
    Good w z bp bq r1 ap r2 r3 vq aq cq tq k1 kap k2 k3 kvq kaq kcq ktq (fI z.fV) (quadF z.cL z.cV z.cH z.cR) (fI z.fT) w4 := by
  have hs := box.lt
  -- blocks from bq on, other than p's, are as they were
  have keepq : ∀ k, bq ≤ k → k < w3.heap.size → w4.heap[k]? = w3.heap[k]? := fun k h1 h2 => hl.block k h2 (by omega) (fun a ha e => by have := lv a ha; omega) (fun a ha e => by have := lc a ha; omega) (fun a ha e => by have := lt a ha; omega)
  have keepb : ∀ k, k < bp → w4.heap[k]? = w3.heap[k]? := fun k h1 => hl.block k (by omega) (by omega) (off_of P.fv (by omega)) (off_of P.fc (by omega)) (off_of P.ft (by omega))
  have clear : ∀ {x y : Option Addr}, NewOr w3 x y → (∀ a, y = some a → a.block < bq) → (∀ a, y = some a → bp < a.block) → Clear x (w.heap.size + 1) bp bq vq aq cq tq := by
    intro x y hn hy hy'
    have hx : ∀ a, x = some a → (bp < a.block ∧ a.block < bq) ∨ w3.heap.size ≤ a.block := by
      intro a ha
      rcases hn with rfl | ⟨g, h1, h2⟩
      · exact .inl ⟨hy' a ha, hy a ha⟩
      · rw [h1] at ha
        obtain rfl := Option.some.inj ha
        exact .inr h2
    have ap' : ∀ {u : Option Addr}, (∀ a, u = some a → bq < a.block) → (∀ a, u = some a → a.block < w3.heap.size) → Apart x u := by
      intro u h1 h2 a b ha hb e
      have := h1 b hb
      have := h2 b hb
      rcases hx a ha with h | h <;> omega
    exact ⟨fun a ha => by rcases hx a ha with h | h <;> omega, fun a ha e => by rcases hx a ha with h | h <;> omega, fun a ha e => by rcases hx a ha with h | h <;> omega,
      ap' Q.fv Q.rv.lt, ap' Q.fa Q.ra.lt, ap' Q.fc Q.rc.lt, ap' Q.ft Q.rt.lt⟩
  have qk : ∀ {e size n cap : Nat} {u : Option Addr} {f : Nat → Value}, Own w3 e size u n cap f → (∀ a, u = some a → bq < a.block) → Own w4 e size u n cap f := fun h h1 => h.of_block fun a ha => keepq _ (by have := h1 a ha; omega) (h.lt a ha)
  exact ⟨hrow, Q.head.of_block (keepq _ (Nat.le_refl _) hs3), box.of_block (keepb _ hB), o1, o2, o3, qk Q.rv Q.fv, qk Q.ra Q.fa, qk Q.rc Q.fc, qk Q.rt Q.ft,
    bel.trans ⟨hl.os, hl.tape, hl.output, hl.size, fun k hk => keepb k (by omega)⟩, clear n1 lv P.fv, clear n2 lc P.fc, clear n3 lt P.ft, a12, a13, a23⟩
end
end Go.Proofs.Ybulkdejs
