/-
  THE WALK of '(*runner).resize' (9).
-/
import Derived.Test.YbulkdejsUntil
namespace Go.Proofs.Ybulkdejs
open Go.RowKit Go.Deep
set_option linter.unusedVariables false
set_option linter.unusedSimpArgs false

/-- The runner's row, the owners told. -/
structure Rn (S : Nat → Prop) (w : World) (tag : Nat → Nat) (br : Nat) (R : Nat → Value) (W : World) (tag' : Nat → Nat) : Prop where
  step : Step S w tag W tag'
  row : W.rowIs br 39 23 R
  tbr : tag' br = 1

namespace Rn
variable {S S' : Nat → Prop} {w W W' : World} {tag tag' tag'' : Nat → Nat} {br : Nat} {R : Nat → Value}
theorem start (h : w.rowIs br 39 23 R) (ht : tag br = 1) : Rn S w tag br R w tag := ⟨Step.refl, h, ht⟩
theorem set (h : Rn S w tag br R W tag') (h1 : S 1) (k : Nat) (v : Value) : Rn S w tag br (upd R k v) (W.setCell ⟨br, k, none⟩ v) tag' := ⟨h.step.trans (Step.setCell _ (by show S (tag' br); rw [h.tbr]; exact h1)), h.row.set k v, h.tbr⟩
theorem on (h : Rn S w tag br R W tag') (hs : Step S' W tag' W' tag'') (hS : ∀ t, S' t → S t) (h1 : ¬ S' 1) : Rn S w tag br R W' tag'' := ⟨h.step.trans (hs.mono hS), hs.row h.row h.tbr h1, hs.tagOf h.row.lt h.tbr⟩
theorem mono (h : Rn S w tag br R W tag') (hS : ∀ t, S t → S' t) : Rn S' w tag br R W tag' := ⟨h.step.mono hS, h.row, h.tbr⟩
theorem drew (h : Rn S w tag br R W tag') : Rn S w tag br R W.drew tag' := ⟨⟨h.step.os, h.step.tape, h.step.output, h.step.size, h.step.agree, h.step.block⟩, h.row, h.tbr⟩
end Rn

/-- What 'resize' is called at. -/
structure Pre (w : World) (tag : Nat → Nat) (br : Nat) (R : Nat → Value) (sh : Bool) (K : Nat) (tao : Option Addr) (TF : Nat → Value) (l : Nat → Nat) (A : Nat → Nat → Addr) : Prop where
  row : w.rowIs br 39 23 R
  tbr : tag br = 1
  sh : R 2 = .bool sh
  o : Tb w tag 3 82 4 (R 5)
  h : Tb w tag 4 3 1 (R 18)
  v : Tb w tag 5 20 1 (R 20)
  t : R 19 = .slice tao K K
  own : Own w 50 6 tao K K TF
  at_ : At tag tao 2
  old : ∀ j, j < K → OldE w tag TF l A j
  k : K ≤ 300


/-- The owners that the first three tables and the runner have. -/
def S4 (t : Nat) : Prop := t = 1 ∨ t = 3 ∨ t = 4 ∨ t = 5

/-- A 'sized' among the three: what it leaves of what lies elsewhere. -/
theorem sized_step {W W' : World} {tag : Nat → Nat} {e size n t m cap : Nat} {zs : Array Value} {ao ro : Option Addr} {f : Nat → Value} {rc : Nat} (ha : At tag ao t) (h0 : Own W e size ao m cap f) (ho : Own W' e size ro n rc (zf size zs)) (hg : W.grownBy W' (blk ao)) (hne : ro = ao ∨ ∃ g, ro = some ⟨g, 0, none⟩ ∧ W.heap.size ≤ g) :
    Step (fun x => x = t) W tag W' (tg tag W.heap.size t) ∧ Tz W' (tg tag W.heap.size t) t e size zs n (.slice ro n rc) :=
  ⟨Step.grown (S := fun x => x = t) hg ha rfl t, ro, rc, rfl, ho, at_new h0 ha hne⟩

structure G1 (w : World) (tag : Nat → Nat) (br n : Nat) (R : Nat → Value) (v5 : Value) (W : World) (tag' : Nat → Nat) : Prop where
  run : Rn S4 w tag br R W tag'
  z5 : Tz W tag' 3 82 4 zOut n v5
structure G2 (w : World) (tag : Nat → Nat) (br n : Nat) (R : Nat → Value) (v5 v18 : Value) (W : World) (tag' : Nat → Nat) : Prop where
  run : Rn S4 w tag br R W tag'
  z5 : Tz W tag' 3 82 4 zOut n v5
  z18 : Tz W tag' 4 3 1 zInt n v18
structure G3 (w : World) (tag : Nat → Nat) (br n : Nat) (R : Nat → Value) (v5 v18 v20 : Value) (W : World) (tag' : Nat → Nat) : Prop where
  run : Rn S4 w tag br R W tag'
  z5 : Tz W tag' 3 82 4 zOut n v5
  z18 : Tz W tag' 4 3 1 zInt n v18
  z20 : Tz W tag' 5 20 1 zAny n v20

section
variable {w W W' : World} {tag tag' : Nat → Nat} {br n : Nat} {R : Nat → Value} {v5 v18 v20 : Value}
theorem g1_of (h : Rn S4 w tag br R W tag') {ao ro : Option Addr} {m cap rc : Nat} {f : Nat → Value} (ha : At tag' ao 3) (h0 : Own W 82 4 ao m cap f) (ho : Own W' 82 4 ro n rc (zf 4 zOut)) (hg : W.grownBy W' (blk ao)) (hne : ro = ao ∨ ∃ g, ro = some ⟨g, 0, none⟩ ∧ W.heap.size ≤ g) :
    G1 w tag br n R (.slice ro n rc) W' (tg tag' W.heap.size 3) := by
  obtain ⟨s, z⟩ := sized_step ha h0 ho hg hne
  exact ⟨h.on s (fun t e => .inr (.inl e)) (by decide), z⟩
theorem g2_of (h : G1 w tag br n R v5 W tag') {ao ro : Option Addr} {m cap rc : Nat} {f : Nat → Value} (ha : At tag' ao 4) (h0 : Own W 3 1 ao m cap f) (ho : Own W' 3 1 ro n rc (zf 1 zInt)) (hg : W.grownBy W' (blk ao)) (hne : ro = ao ∨ ∃ g, ro = some ⟨g, 0, none⟩ ∧ W.heap.size ≤ g) :
    G2 w tag br n R v5 (.slice ro n rc) W' (tg tag' W.heap.size 4) := by
  obtain ⟨s, z⟩ := sized_step ha h0 ho hg hne
  exact ⟨h.run.on s (fun t e => .inr (.inr (.inl e))) (by decide), h.z5.step s (by decide), z⟩
theorem g3_of (h : G2 w tag br n R v5 v18 W tag') {ao ro : Option Addr} {m cap rc : Nat} {f : Nat → Value} (ha : At tag' ao 5) (h0 : Own W 20 1 ao m cap f) (ho : Own W' 20 1 ro n rc (zf 1 zAny)) (hg : W.grownBy W' (blk ao)) (hne : ro = ao ∨ ∃ g, ro = some ⟨g, 0, none⟩ ∧ W.heap.size ≤ g) :
    G3 w tag br n R v5 v18 (.slice ro n rc) W' (tg tag' W.heap.size 5) := by
  obtain ⟨s, z⟩ := sized_step ha h0 ho hg hne
  exact ⟨h.run.on s (fun t e => .inr (.inr (.inr e))) (by decide), h.z5.step s (by decide), h.z18.step s (by decide), z⟩
/-- .. and the three stores. -/
theorem g3_end (h : G3 w tag br n R v5 v18 v20 W tag') : G3 w tag br n (upd (upd (upd R 5 v5) 18 v18) 20 v20) v5 v18 v20 (((W.setCell ⟨br, 5, none⟩ v5).setCell ⟨br, 18, none⟩ v18).setCell ⟨br, 20, none⟩ v20) tag' := by
  have s1 : Step (fun t => t = 1) W tag' (W.setCell ⟨br, 5, none⟩ v5) tag' := Step.setCell _ h.run.tbr
  have s2 : Step (fun t => t = 1) (W.setCell ⟨br, 5, none⟩ v5) tag' ((W.setCell ⟨br, 5, none⟩ v5).setCell ⟨br, 18, none⟩ v18) tag' := Step.setCell _ h.run.tbr
  have s3 : Step (fun t => t = 1) ((W.setCell ⟨br, 5, none⟩ v5).setCell ⟨br, 18, none⟩ v18) tag' (((W.setCell ⟨br, 5, none⟩ v5).setCell ⟨br, 18, none⟩ v18).setCell ⟨br, 20, none⟩ v20) tag' := Step.setCell _ h.run.tbr
  have s := (s1.trans s2).trans s3
  exact ⟨((h.run.set (.inl rfl) 5 v5).set (.inl rfl) 18 v18).set (.inl rfl) 20 v20, h.z5.step s (by decide), h.z18.step s (by decide), h.z20.step s (by decide)⟩
end

theorem five : 5 < 23 := by omega
theorem eighteen : 18 < 23 := by omega
theorem twenty : 20 < 23 := by omega

/-- The three tables and the runner, behind the three 'sized'. -/
def P3 (w : World) (tag : Nat → Nat) (br n : Nat) (R : Nat → Value) (W : World) : Prop := ∃ v5 v18 v20 tag', G3 w tag br n (upd (upd (upd R 5 v5) 18 v18) 20 v20) v5 v18 v20 W tag'

/-- What 'resize' leaves; TF1: the time tables' cells as they were (a new one's: nil). -/
structure Done (w : World) (tag : Nat → Nat) (br n : Nat) (T : Int) (R : Nat → Value) (K : Nat) (l : Nat → Nat) (A : Nat → Nat → Addr) (TF1 : Nat → Value) (W : World) (tag' : Nat → Nat) (R' TF : Nat → Value) (tao : Option Addr) (cap : Nat) : Prop where
  step : Step (fun t => t ≠ 0 ∧ t < 1000) w tag W tag'
  row : W.rowIs br 39 23 R'
  n7 : R' 7 = .int .i64 n
  t8 : R' 8 = .int .i64 T
  s4 : R' 4 = R 4
  s9 : R' 9 = R 9
  s21 : R' 21 = R 21
  s22 : R' 22 = R 22
  z5 : Tz W tag' 3 82 4 zOut n (R' 5)
  z18 : Tz W tag' 4 3 1 zInt n (R' 18)
  z20 : Tz W tag' 5 20 1 zAny n (R' 20)
  t19 : R' 19 = .slice tao K cap
  own : Own W 50 6 tao K cap TF
  new : ∀ j, j < K → ∃ pa pc sa sc, TF (j * 6) = .slice pa n pc ∧ TF (j * 6 + 1) = .slice sa n sc ∧ Own W 58 1 pa n pc (pf (l j) (A j)) ∧ Own W 20 1 sa n sc (zf 1 zAny)
  rest : ∀ j, j < K → ∀ c, 2 ≤ c → c < 6 → TF (j * 6 + c) = TF1 (j * 6 + c)

theorem s4_ne {t : Nat} (h : S4 t) : t ≠ 0 ∧ t < 1000 := by unfold S4 at h; omega

/-- The runner's cells behind the first half. -/
def Rz (R : Nat → Value) (n : Nat) (T : Int) (v5 v18 v20 : Value) : Nat → Value := upd (upd (upd (upd (upd R 7 (.int .i64 n)) 8 (.int .i64 T)) 5 v5) 18 v18) 20 v20

theorem done_shares {w W3 W : World} {tag tag3 tag' : Nat → Nat} {br n K : Nat} {T : Int} {R : Nat → Value} {l : Nat → Nat} {A : Nat → Nat → Addr} {TF TF' : Nat → Value} {tao : Option Addr} {v5 v18 v20 : Value}
    (g : G3 w tag br n (Rz R n T v5 v18 v20) v5 v18 v20 W3 tag3) (h : LI W3 tag3 K n l A TF tao K K W tag' TF') (ht : R 19 = .slice tao K K) (hK : K ≤ 300) : Done w tag br n T R K l A TF W tag' (Rz R n T v5 v18 v20) TF' tao K :=
  ⟨(g.run.step.mono fun t h => s4_ne h).trans (h.step.mono fun t h => by omega), h.step.row g.run.row g.run.tbr (by omega), rfl, rfl, rfl, rfl, rfl, rfl, g.z5.step h.step (by omega), g.z18.step h.step (by omega), g.z20.step h.step (by omega), ht, h.own,
    fun j hj => by
      obtain ⟨pa, pc, sa, sc, h1, h2, h3, _, h4, _⟩ := h.new j hj
      exact ⟨pa, pc, sa, sc, h1, h2, h3, h4⟩, h.rest⟩

theorem li_start {w W : World} {tag tag' : Nat → Nat} {S : Nat → Prop} {K cap n : Nat} {l : Nat → Nat} {A : Nat → Nat → Addr} {TF : Nat → Value} {tao : Option Addr} (hs : Step S w tag W tag') (h0 : ¬ S 0) (h2 : ¬ S 2) (h6 : ∀ t, 6 ≤ t → ¬ S t) (ho : Own w 50 6 tao cap cap TF) (ha : At tag tao 2) (hold : ∀ j, j < K → OldE w tag TF l A j) :
    LI W tag' K n l A TF tao cap 0 W tag' TF :=
  ⟨Step.refl, hs.own ho ha h2, hs.at_ ho ha, fun j hj => by omega, fun j _ hj => (hold j hj).step hs h0 (h6 _ (by omega)) rfl rfl, fun _ _ _ _ _ => rfl⟩


set_option maxHeartbeats 4000000 in
set_option maxRecDepth 100000 in
theorem resize_shares (br n K : Nat) (T : Int) (R : Nat → Value) (tag : Nat → Nat) (tao : Option Addr) (TF : Nat → Value) (l : Nat → Nat) (A : Nat → Nat → Addr) (w : World) (hn : n ≤ 600) (h : Pre w tag br R true K tao TF l A) :
    Calls Yba.prog 9 #[.pointer (some ⟨br, 0, none⟩), .agg #[.int .i64 n, .int .i64 T]] w fun e w' => e = .returned (.tuple #[]) ∧ ∃ tag' R' TF' tao' cap', Done w tag br n T R K l A TF w' tag' R' TF' tao' cap' := by
  have H := hid h
  have hn2 : n ≤ 2000 := by omega
  have hb := h.row.lt
  have c7 := h.row.cell (i := 7) (by omega)
  have c8 := h.row.cell (i := 8) (by omega)
  have f7 := h.row.frozen 7
  have f8 := h.row.frozen 8
  clear h
  go_enter Yba.func9, Yba.ntmps9
  go_upto_region 3 with fail
  obtain ⟨R1, hR1⟩ : ∃ R1, R1 = upd (upd R 7 (.int .i64 n)) 8 (.int .i64 T) := ⟨_, rfl⟩
  refine wp_gen (fun W => ∃ tag1, Rn (fun t => t = 1) w tag br R1 W tag1) ?_ ?_
  · refine ⟨tg tag w.heap.size 0, ?_⟩
    rw [hR1]
    have r := ((Rn.start (S := fun t => t = 1) H.out.row H.out.tbr).set rfl 7 (.int .i64 n)).set rfl 8 (.int .i64 T)
    have s := Step.alloc (S := fun _ => False) (W := (w.setCell ⟨br, 7, none⟩ (.int .i64 n)).setCell ⟨br, 8, none⟩ (.int .i64 T)) (tag := tag) (Obj.cells #[Value.int IntKind.i64 n, Value.int IntKind.i64 T] 31) 0
    have q := r.on s (fun _ h => h.elim) (fun h => h)
    simpa using q
  rintro W1 ⟨tag1, r1⟩
  clear c7 c8 f7 f8
  obtain ⟨oo, om, oc, fo, e5, o5, a5⟩ := H.out.o
  obtain ⟨ho, hm, hc, fh, e18, o18, a18⟩ := H.out.h
  obtain ⟨vo, vm, vc, fv, e20, o20, a20⟩ := H.out.v
  have e5' : R1 5 = .slice oo om oc := by rw [hR1]; exact e5
  have e18' : R1 18 = .slice ho hm hc := by rw [hR1]; exact e18
  have e20' : R1 20 = .slice vo vm vc := by rw [hR1]; exact e20
  have O5 := hid (r1.step.own o5 a5 (by decide))
  have O18 := hid (r1.step.own o18 a18 (by decide))
  have O20 := hid (r1.step.own o20 a20 (by decide))
  have A5 := hid (r1.step.at_ o5 a5)
  have A18 := hid (r1.step.at_ o18 a18)
  have A20 := hid (r1.step.at_ o20 a20)
  have l5 := o5.cap_le.2
  have l18 := o18.cap_le.2
  have l20 := o20.cap_le.2
  have b1 := r1.row.lt
  have c5 := r1.row.cell (i := 5) (by omega)
  have c18 := r1.row.cell (i := 18) (by omega)
  have c20 := r1.row.cell (i := 20) (by omega)
  rw [e5'] at c5
  rw [e18'] at c18
  rw [e20'] at c20
  have RN := hid (r1.mono (S' := S4) fun t h => .inl h)
  have HR1 := hid hR1
  have E5 := hid e5'
  have E18 := hid e18'
  have E20 := hid e20'
  clear r1 o5 o18 o20 a5 a18 a20 e5 e18 e20 hR1 e5' e18' e20'
  go_cut [] from 13 to 41 (fun wx => P3 w tag br n R1 wx)
  case first =>
    have HS : W1.drew.cell? ⟨br, 5, none⟩ = some (.slice oo om oc) ∧ W1.drew.cell? ⟨br, 18, none⟩ = some (.slice ho hm hc) ∧ W1.drew.cell? ⟨br, 20, none⟩ = some (.slice vo vm vc) := ⟨c5, c18, c20⟩
    refine Until.begin (by kernel_rfl) (fun W => W.cell? ⟨br, 5, none⟩ = some (.slice oo om oc) ∧ W.cell? ⟨br, 18, none⟩ = some (.slice ho hm hc) ∧ W.cell? ⟨br, 20, none⟩ = some (.slice vo vm vc)) 25 ?_
    refine Until.takeWD (i := 0) (v := ?_) 13 rfl rfl (by kernel_rfl) (by kernel_rfl) (by kernel_rfl) rfl (fun _ _ _ h => h) (Or.inl ⟨by rfl, ?_⟩) (fun _ => HS) ?_
    rotate_left
    · intro w; go_simp; try with_reducible rfl
    simp only [List.setIfInBounds_toArray, List.set_cons_zero, List.set_cons_succ]
    refine Until.takeWD (i := 1) (v := ?_) 14 rfl rfl (by kernel_rfl) (by kernel_rfl) (by kernel_rfl) rfl (fun _ _ _ h => h) (Or.inl ⟨by rfl, ?_⟩) (fun _ => HS) ?_
    rotate_left
    · intro w; go_simp; try with_reducible rfl
    simp only [List.setIfInBounds_toArray, List.set_cons_zero, List.set_cons_succ]
    refine Until.takeWD (i := 2) (v := ?_) 15 rfl rfl (by kernel_rfl) (by kernel_rfl) (by kernel_rfl) rfl (fun _ _ _ h => h) (Or.inl ⟨by rfl, ?_⟩) (fun _ => HS) ?_
    rotate_left
    · intro w; go_simp; try with_reducible rfl
    simp only [List.setIfInBounds_toArray, List.set_cons_zero, List.set_cons_succ]
    refine Until.takeWD (i := 3) (v := ?_) 16 rfl rfl (by kernel_rfl) (by kernel_rfl) (by kernel_rfl) rfl (fun _ _ _ h => h) (Or.inl ⟨by rfl, ?_⟩) (fun _ => HS) ?_
    rotate_left
    · intro w; go_simp; try with_reducible rfl
    simp only [List.setIfInBounds_toArray, List.set_cons_zero, List.set_cons_succ]
    refine Until.takeWD (i := 4) (v := ?_) 17 rfl rfl (by kernel_rfl) (by kernel_rfl) (by kernel_rfl) rfl (fun _ _ _ h => h) (Or.inl ⟨by rfl, ?_⟩) (fun _ => HS) ?_
    rotate_left
    · intro w; go_simp; try with_reducible rfl
    simp only [List.setIfInBounds_toArray, List.set_cons_zero, List.set_cons_succ]
    refine Until.takeWD (i := 5) (v := ?_) 18 rfl rfl (by kernel_rfl) (by kernel_rfl) (by kernel_rfl) rfl (fun _ _ _ h => h) (Or.inl ⟨by rfl, ?_⟩) (fun _ => HS) ?_
    rotate_left
    · intro w; go_simp; try with_reducible rfl
    simp only [List.setIfInBounds_toArray, List.set_cons_zero, List.set_cons_succ]
    refine Until.takeWD (i := 6) (v := ?_) 19 rfl rfl (by kernel_rfl) (by kernel_rfl) (by kernel_rfl) rfl (fun _ _ _ h => h) (Or.inl ⟨by rfl, ?_⟩) (fun _ => HS) ?_
    rotate_left
    · intro w; go_simp; try with_reducible rfl
    simp only [List.setIfInBounds_toArray, List.set_cons_zero, List.set_cons_succ]
    refine Until.takeD (i := 7) (v := ?_) 20 rfl rfl (by kernel_rfl) (by kernel_rfl) (by kernel_rfl) (by kernel_rfl) (by kernel_rfl) (fun _ _ _ h => h) (Or.inl ⟨by rfl, ?_⟩) HS ?_
    rotate_left
    · intro w hSw; obtain ⟨s5, s18, s20⟩ := hSw; go_simp; try with_reducible rfl
    simp only [List.setIfInBounds_toArray, List.set_cons_zero, List.set_cons_succ]
    refine Until.takeWD (i := 8) (v := ?_) 21 rfl rfl (by kernel_rfl) (by kernel_rfl) (by kernel_rfl) rfl (fun _ _ _ h => h) (Or.inl ⟨by rfl, ?_⟩) (fun _ => HS) ?_
    rotate_left
    · intro w; go_simp; try with_reducible rfl
    simp only [List.setIfInBounds_toArray, List.set_cons_zero, List.set_cons_succ]
    refine Until.takeWD (i := 10) (v := ?_) 23 rfl rfl (by kernel_rfl) (by kernel_rfl) (by kernel_rfl) rfl (fun _ _ _ h => h) (Or.inl ⟨by rfl, ?_⟩) (fun _ => HS) ?_
    rotate_left
    · intro w; go_simp; try with_reducible rfl
    simp only [List.setIfInBounds_toArray, List.set_cons_zero, List.set_cons_succ]
    refine Until.takeWD (i := 11) (v := ?_) 24 rfl rfl (by kernel_rfl) (by kernel_rfl) (by kernel_rfl) rfl (fun _ _ _ h => h) (Or.inl ⟨by rfl, ?_⟩) (fun _ => HS) ?_
    rotate_left
    · intro w; go_simp; try with_reducible rfl
    simp only [List.setIfInBounds_toArray, List.set_cons_zero, List.set_cons_succ]
    refine Until.takeWD (i := 12) (v := ?_) 25 rfl rfl (by kernel_rfl) (by kernel_rfl) (by kernel_rfl) rfl (fun _ _ _ h => h) (Or.inl ⟨by rfl, ?_⟩) (fun _ => HS) ?_
    rotate_left
    · intro w; go_simp; try with_reducible rfl
    simp only [List.setIfInBounds_toArray, List.set_cons_zero, List.set_cons_succ]
    refine Until.takeD (i := 13) (v := ?_) 26 rfl rfl (by kernel_rfl) (by kernel_rfl) (by kernel_rfl) (by kernel_rfl) (by kernel_rfl) (fun _ _ _ h => h) (Or.inl ⟨by rfl, ?_⟩) HS ?_
    rotate_left
    · intro w hSw; obtain ⟨s5, s18, s20⟩ := hSw; go_simp; try with_reducible rfl
    simp only [List.setIfInBounds_toArray, List.set_cons_zero, List.set_cons_succ]
    refine Until.takeWD (i := 14) (v := ?_) 27 rfl rfl (by kernel_rfl) (by kernel_rfl) (by kernel_rfl) rfl (fun _ _ _ h => h) (Or.inl ⟨by rfl, ?_⟩) (fun _ => HS) ?_
    rotate_left
    · intro w; go_simp; try with_reducible rfl
    simp only [List.setIfInBounds_toArray, List.set_cons_zero, List.set_cons_succ]
    refine Until.takeWD (i := 16) (v := ?_) 29 rfl rfl (by kernel_rfl) (by kernel_rfl) (by kernel_rfl) rfl (fun _ _ _ h => h) (Or.inl ⟨by rfl, ?_⟩) (fun _ => HS) ?_
    rotate_left
    · intro w; go_simp; try with_reducible rfl
    simp only [List.setIfInBounds_toArray, List.set_cons_zero, List.set_cons_succ]
    refine Until.takeWD (i := 17) (v := ?_) 30 rfl rfl (by kernel_rfl) (by kernel_rfl) (by kernel_rfl) rfl (fun _ _ _ h => h) (Or.inl ⟨by rfl, ?_⟩) (fun _ => HS) ?_
    rotate_left
    · intro w; go_simp; try with_reducible rfl
    simp only [List.setIfInBounds_toArray, List.set_cons_zero, List.set_cons_succ]
    refine Until.takeWD (i := 18) (v := ?_) 31 rfl rfl (by kernel_rfl) (by kernel_rfl) (by kernel_rfl) rfl (fun _ _ _ h => h) (Or.inl ⟨by rfl, ?_⟩) (fun _ => HS) ?_
    rotate_left
    · intro w; go_simp; try with_reducible rfl
    simp only [List.setIfInBounds_toArray, List.set_cons_zero, List.set_cons_succ]
    refine Until.takeD (i := 19) (v := ?_) 32 rfl rfl (by kernel_rfl) (by kernel_rfl) (by kernel_rfl) (by kernel_rfl) (by kernel_rfl) (fun _ _ _ h => h) (Or.inl ⟨by rfl, ?_⟩) HS ?_
    rotate_left
    · intro w hSw; obtain ⟨s5, s18, s20⟩ := hSw; go_simp; try with_reducible rfl
    simp only [List.setIfInBounds_toArray, List.set_cons_zero, List.set_cons_succ]
    refine Until.takeWD (i := 20) (v := ?_) 33 rfl rfl (by kernel_rfl) (by kernel_rfl) (by kernel_rfl) rfl (fun _ _ _ h => h) (Or.inl ⟨by rfl, ?_⟩) (fun _ => HS) ?_
    rotate_left
    · intro w; go_simp; try with_reducible rfl
    simp only [List.setIfInBounds_toArray, List.set_cons_zero, List.set_cons_succ]
    refine Until.one (i := 9) (by kernel_rfl) rfl (fun K hK => ?_)
    go_simp
    refine Calls.mono (sizedOut_any oo om oc n fo _ hn2 l5 ?_) ?_
    · exact O5.out
    rintro e w2 ⟨r5, k5, rfl, q1, q2, q3⟩
    have X1 := hid (g1_of RN.out.drew A5.out O5.out q1 q2 q3)
    have s1 := (sized_step (tag := tag1) A5.out (W := W1.drew) O5.out q1 q2 q3).1
    have O18a := hid (s1.own (W := W1.drew) O18.out A18.out (by decide))
    have A18a := hid (s1.at_ (W := W1.drew) O18.out A18.out)
    have O20a := hid (s1.own (W := W1.drew) O20.out A20.out (by decide))
    have A20a := hid (s1.at_ (W := W1.drew) O20.out A20.out)
    clear HS
    have HS : w2.cell? ⟨br, 5, none⟩ = some (.slice oo om oc) ∧ w2.cell? ⟨br, 18, none⟩ = some (.slice ho hm hc) ∧ w2.cell? ⟨br, 20, none⟩ = some (.slice vo vm vc) := by
      have d := X1.out.run.row
      exact ⟨(d.cell (by omega)).trans (congrArg some E5.out), (d.cell (by omega)).trans (congrArg some E18.out), (d.cell (by omega)).trans (congrArg some E20.out)⟩
    dsimp only
    refine hK.out _ _ (fun _ => HS) ?_
    clear hK K q1 q2 q3 s1
    refine Until.one (i := 15) (by kernel_rfl) rfl (fun K hK => ?_)
    go_simp
    refine Calls.mono (sizedInt_any ho hm hc n fh _ hn2 l18 O18a.out) ?_
    rintro e w3 ⟨r18, k18, rfl, q1, q2, q3⟩
    have X2 := hid (g2_of X1.out A18a.out O18a.out q1 q2 q3)
    have s1 := (sized_step A18a.out O18a.out q1 q2 q3).1
    have O20b := hid (s1.own O20a.out A20a.out (by decide))
    have A20b := hid (s1.at_ O20a.out A20a.out)
    clear HS
    have HS : w3.cell? ⟨br, 5, none⟩ = some (.slice oo om oc) ∧ w3.cell? ⟨br, 18, none⟩ = some (.slice ho hm hc) ∧ w3.cell? ⟨br, 20, none⟩ = some (.slice vo vm vc) := by
      have d := X2.out.run.row
      exact ⟨(d.cell (by omega)).trans (congrArg some E5.out), (d.cell (by omega)).trans (congrArg some E18.out), (d.cell (by omega)).trans (congrArg some E20.out)⟩
    dsimp only
    refine hK.out _ _ (fun _ => HS) ?_
    clear hK K q1 q2 q3 s1
    refine Until.one (i := 21) (by kernel_rfl) rfl (fun K hK => ?_)
    go_simp
    refine Calls.mono (sizedAny_any vo vm vc n fv _ hn2 l20 O20b.out) ?_
    rintro e w4 ⟨r20, k20, rfl, q1, q2, q3⟩
    have X3 := hid (g3_of X2.out A20b.out O20b.out q1 q2 q3)
    have b4 := X3.out.run.row.lt
    have z5 := X3.out.run.row.frozen 5
    have z18 := X3.out.run.row.frozen 18
    have z20 := X3.out.run.row.frozen 20
    clear HS
    have HS : w4.cell? ⟨br, 5, none⟩ = some (.slice oo om oc) ∧ w4.cell? ⟨br, 18, none⟩ = some (.slice ho hm hc) ∧ w4.cell? ⟨br, 20, none⟩ = some (.slice vo vm vc) := by
      have d := X3.out.run.row
      exact ⟨(d.cell (by omega)).trans (congrArg some E5.out), (d.cell (by omega)).trans (congrArg some E18.out), (d.cell (by omega)).trans (congrArg some E20.out)⟩
    dsimp only
    refine hK.out _ _ (fun _ => HS) ?_
    clear hK K q1 q2 q3
    refine Until.takeWD (i := 22) (v := ?_) 35 rfl rfl (by kernel_rfl) (by kernel_rfl) (by kernel_rfl) rfl (fun _ _ _ h => h) (Or.inl ⟨by rfl, ?_⟩) (fun _ => HS) ?_
    rotate_left
    · intro w; go_simp; try with_reducible rfl
    simp only [List.setIfInBounds_toArray, List.set_cons_zero, List.set_cons_succ]
    refine Until.takeWD (i := 23) (v := ?_) 36 rfl rfl (by kernel_rfl) (by kernel_rfl) (by kernel_rfl) rfl (fun _ _ _ h => h) (Or.inl ⟨by rfl, ?_⟩) (fun _ => HS) ?_
    rotate_left
    · intro w; go_simp; try with_reducible rfl
    simp only [List.setIfInBounds_toArray, List.set_cons_zero, List.set_cons_succ]
    refine Until.takeWD (i := 24) (v := ?_) 37 rfl rfl (by kernel_rfl) (by kernel_rfl) (by kernel_rfl) rfl (fun _ _ _ h => h) (Or.inl ⟨by rfl, ?_⟩) (fun _ => HS) ?_
    rotate_left
    · intro w; go_simp; try with_reducible rfl
    simp only [List.setIfInBounds_toArray, List.set_cons_zero, List.set_cons_succ]
    obtain ⟨y5, y18, y20⟩ := HS
    refine Until.one (i := 25) (by kernel_rfl) rfl (fun K hK => ?_)
    go_simp
    refine hK.out _ _ (fun h => by cases h) ?_
    clear hK K
    refine Until.takeWD (i := 26) (v := ?_) 38 rfl rfl (by kernel_rfl) (by kernel_rfl) (by kernel_rfl) rfl (fun _ _ _ h => h) (Or.inl ⟨by rfl, ?_⟩) (fun h => by cases h) ?_
    rotate_left
    · intro w; go_simp; try with_reducible rfl
    simp only [List.setIfInBounds_toArray, List.set_cons_zero, List.set_cons_succ]
    refine Until.takeWD (i := 27) (v := ?_) 39 rfl rfl (by kernel_rfl) (by kernel_rfl) (by kernel_rfl) rfl (fun _ _ _ h => h) (Or.inl ⟨by rfl, ?_⟩) (fun h => by cases h) ?_
    rotate_left
    · intro w; go_simp; try with_reducible rfl
    simp only [List.setIfInBounds_toArray, List.set_cons_zero, List.set_cons_succ]
    refine Until.one (i := 28) (by kernel_rfl) rfl (fun K hK => ?_)
    go_simp
    refine hK.out _ _ (fun h => by cases h) ?_
    clear hK K
    refine Until.takeWD (i := 29) (v := ?_) 40 rfl rfl (by kernel_rfl) (by kernel_rfl) (by kernel_rfl) rfl (fun _ _ _ h => h) (Or.inl ⟨by rfl, ?_⟩) (fun h => by cases h) ?_
    rotate_left
    · intro w; go_simp; try with_reducible rfl
    simp only [List.setIfInBounds_toArray, List.set_cons_zero, List.set_cons_succ]
    refine Until.takeWD (i := 30) (v := ?_) 41 rfl rfl (by kernel_rfl) (by kernel_rfl) (by kernel_rfl) rfl (fun _ _ _ h => h) (Or.inl ⟨by rfl, ?_⟩) (fun h => by cases h) ?_
    rotate_left
    · intro w; go_simp; try with_reducible rfl
    simp only [List.setIfInBounds_toArray, List.set_cons_zero, List.set_cons_succ]
    refine Until.one (i := 31) (by kernel_rfl) rfl (fun K hK => ?_)
    go_simp
    refine hK.out _ _ (fun h => by cases h) ?_
    clear hK K
    refine Until.done (by kernel_rfl) ?_ _
    go_wp2
    go_meet
    case rel => exact ⟨_, _, _, _, g3_end X3.out⟩
  case rest =>
    clear O5 O18 O20 A5 A18 A20 l5 l18 l20 b1 c5 c18 c20 RN E5 E18 E20
    obtain ⟨v5, v18, v20, tag3, g⟩ := hcut
    have e1 := HR1.out
    subst e1
    have G := hid g
    have b3 := g.run.row.lt
    have y2 := g.run.row.cell (i := 2) (by omega)
    have y19 := g.run.row.cell (i := 19) (by omega)
    have x2 : upd (upd (upd (upd (upd R 7 (.int .i64 n)) 8 (.int .i64 T)) 5 v5) 18 v18) 20 v20 2 = .bool true := H.out.sh
    have x19 : upd (upd (upd (upd (upd R 7 (.int .i64 n)) 8 (.int .i64 T)) 5 v5) 18 v18) 20 v20 19 = .slice tao K K := H.out.t
    rw [x2] at y2
    rw [x19] at y19
    have hK := H.out.k
    have L0 := hid (li_start (n := n) g.run.step (by unfold S4; omega) (by unfold S4; omega) (fun t h => by unfold S4; omega) H.out.own H.out.at_ H.out.old)
    clear g x2 x19 HR1
    go_upto_region 7 with fail
    go_loopw [62] (fun si wr => ∃ (i : Nat) (tag' : Nat → Nat) (TF' : Nat → Value), i ≤ K ∧ si = .int .i64 i ∧ LI wc tag3 K n l A TF tao K i wr tag' TF') (fun si _ => K - (intOf si).toNat)
    case atStart => exact ⟨0, _, _, Nat.zero_le _, rfl, L0.out⟩
    case round =>
      clear L0 y2 y19 b3
      obtain ⟨i, tag4, TF4, hi, rfl, L⟩ := hrel
      have q := L.step.row G.out.run.row G.out.run.tbr (by omega)
      have b4 := q.lt
      have y19 := q.cell (i := 19) (by omega)
      have y2 := q.cell (i := 2) (by omega)
      have x2 : upd (upd (upd (upd (upd R 7 (.int .i64 n)) 8 (.int .i64 T)) 5 v5) 18 v18) 20 v20 2 = .bool true := H.out.sh
      have x19 : upd (upd (upd (upd (upd R 7 (.int .i64 n)) 8 (.int .i64 T)) 5 v5) 18 v18) 20 v20 19 = .slice tao K K := H.out.t
      rw [x2] at y2
      rw [x19] at y19
      clear q x2 x19
      by_cases hlt : i < K
      · obtain ⟨gt, rfl, lt, d0, fz0⟩ := L.own.cell (j := i * 6) (by omega)
        obtain ⟨pa, pm, pc, sa, sm, sc, f, t0, t1, hl, op, ap, os1, as1⟩ := L.old i (Nat.le_refl _) hlt
        rw [t0] at d0
        have HC : Hid (Calls Yba.prog 23 #[.slice pa 0 pc, .int .i64 n] wr (Grown1 58 1 zPrc pa pc n (pf (l i) (A i)) wr)) := growPrc_any pa pc n _ wr hn2 op.cap_le.2 op
        have HL := hid L
        have HO := hid op
        have HA := hid ap
        have HT := hid t1
        have HS := hid os1
        have HSA := hid as1
        have HLL := hid hl
        have ls := os1.cap_le.2
        clear L t0 t1 hl op ap os1 as1
        go_wp2_with fail
        refine HC.out.mono ?_
        rintro e W1 ⟨ro, rc, rfl, h1, h2, h3, h4, h5⟩
        have M := hid (HL.out.grow hlt HLL.out HO.out HA.out HT.out HS.out HSA.out h1 h3 h4 h5)
        have ot : Own W1 50 6 (some ⟨gt, 0, none⟩) K K TF4 := HL.out.own.of_block fun a ha => h4.block _ (HL.out.own.lt a ha) (by simp)
        obtain ⟨_, e9, lt1, d1, fz1⟩ := ot.cell (j := i * 6) (by omega)
        obtain rfl : gt = _ := by simpa using e9
        clear e9 ot h3 h4 h5 HL HO HA HT HS HSA HLL HC
        go_upto_region 11 with fail
        refine wp_gen (fun W => ∃ tag5 TF5, MI wc tag3 K n l A TF (some ⟨gt, 0, none⟩) K i ro rc sa sm sc f W tag5 TF5) ?_ ?_
        · exact ⟨_, _, M.out⟩
        clear M lt1 d1 fz1 lt d0 fz0 b4 y19 y2
        rintro W2 ⟨tag5, TF5, m5⟩
        obtain ⟨_, e9, lt2, d2, fz2⟩ := m5.own.cell (j := i * 6 + 1) (by omega)
        obtain rfl : gt = _ := by simpa using e9
        rw [m5.s] at d2
        have HC : Hid (Calls Yba.prog 21 #[.slice sa sm sc, .int .i64 n] W2 (Sized1 20 1 zAny sa n W2)) := sizedAny_any sa sm sc n f W2 hn2 ls m5.so
        have M5 := hid m5
        clear m5 e9
        go_wp2_with fail
        refine HC.out.mono ?_
        rintro e W6 ⟨so, kc, rfl, k1, k2, k3⟩
        have N := hid (M5.out.size hlt k1 k2 k3)
        have ot : Own W6 50 6 (some ⟨gt, 0, none⟩) K K TF5 := (Step.grown (S := fun t => t = 6 + i) k2 M5.out.st rfl 0).own M5.out.own M5.out.at_ (by omega)
        obtain ⟨_, e9, lt1, d1, fz1⟩ := ot.cell (j := i * 6 + 1) (by omega)
        obtain rfl : gt = _ := by simpa using e9
        clear e9 ot k1 k2 k3 M5 HC lt2 d2 fz2
        go_wp2_with fail
        go_roundw
        case rel => exact ⟨i + 1, _, _, by omega, by go_num, N.out⟩
        case measure => simp [intOf]; omega
      · obtain rfl : i = K := by omega
        have D := hid (done_shares G.out L H.out.t hK)
        clear L
        go_wp2_with fail
        go_end0
        exact ⟨rfl, _, _, _, _, _, D.out⟩
end Go.Proofs.Ybulkdejs
