/-
  THE WALK of '(*runner).resize' (9), a runner that does not share.
-/
import Derived.Test.YbulkdejsResize
namespace Go.Proofs.Ybulkdejs
open Go.RowKit Go.Deep
set_option linter.unusedVariables false
set_option linter.unusedSimpArgs false

/-- How many processes entry j holds once there are two entries. -/
def l2 (K : Nat) (l : Nat → Nat) (j : Nat) : Nat := if j < K then l j else 0

theorem zTim_at {c : Nat} (hc : c < 6) : zTim[c]! = .slice none 0 0 := by
  match c, hc with
  | 0, _ => rfl
  | 1, _ => rfl
  | 2, _ => rfl
  | 3, _ => rfl
  | 4, _ => rfl
  | 5, _ => rfl

theorem ext_old {K j c : Nat} {TF : Nat → Value} (hj : j < K) (hc : c < 6) : ext 6 zTim (K * 6) TF (j * 6 + c) = TF (j * 6 + c) := if_pos (by omega)
theorem ext_new {K j c : Nat} {TF : Nat → Value} (hj : K ≤ j) (hc : c < 6) : ext 6 zTim (K * 6) TF (j * 6 + c) = .slice none 0 0 := by
  unfold ext
  rw [if_neg (by omega), show (j * 6 + c) % 6 = c from by omega, zTim_at hc]

/-- Two entries, of which K were there. -/
theorem two_old {W W' : World} {tag tag' : Nat → Nat} {S : Nat → Prop} {K : Nat} {TF : Nat → Value} {l : Nat → Nat} {A : Nat → Nat → Addr} (h : ∀ j, j < K → OldE W tag TF l A j) (hs : Step S W tag W' tag') (h0 : ¬ S 0) (h6 : ∀ t, 6 ≤ t → ¬ S t) (j : Nat) :
    OldE W' tag' (ext 6 zTim (K * 6) TF) (l2 K l) A j := by
  by_cases hj : j < K
  · have := (h j hj).step (TF' := ext 6 zTim (K * 6) TF) hs h0 (h6 _ (by omega)) (ext_old (c := 0) hj (by omega)) (ext_old (c := 1) hj (by omega))
    obtain ⟨pa, pm, pc, sa, sm, sc, f, h1, h2, h3, h4⟩ := this
    refine ⟨pa, pm, pc, sa, sm, sc, f, h1, h2, ?_, ?_⟩
    · unfold l2; rw [if_pos hj]; exact h3
    · unfold l2; rw [if_pos hj]; exact h4
  · refine ⟨none, 0, 0, none, 0, 0, fun _ => .nilIface, ext_new (c := 0) (by omega) (by omega), ext_new (c := 1) (by omega) (by omega), ?_, .inl ⟨rfl, rfl, rfl⟩, (fun a h => by cases h), .inl ⟨rfl, rfl, rfl⟩, (fun a h => by cases h)⟩
    unfold l2
    rw [if_neg hj]
    exact Nat.le_refl _

/-- The times' table grown, and stored. -/
theorem g3_times {w W W' : World} {tag tag' : Nat → Nat} {br n : Nat} {R : Nat → Value} {v5 v18 v20 : Value} (g : G3 w tag br n R v5 v18 v20 W tag') (hg : W.grownBy W' none) (v : Value) :
    G3 w tag br n (upd R 19 v) v5 v18 v20 (W'.setCell ⟨br, 19, none⟩ v) (tg tag' W.heap.size 2) := by
  have s1 : Step (fun t => t = 1) W tag' W' (tg tag' W.heap.size 2) := Step.grew hg 2
  have r := g.run.on (Step.grew (S := fun _ => False) hg 2) (fun _ h => h.elim) (fun h => h)
  have s2 : Step (fun t => t = 1) W' (tg tag' W.heap.size 2) (W'.setCell ⟨br, 19, none⟩ v) (tg tag' W.heap.size 2) := Step.setCell _ r.tbr
  have s := s1.trans s2
  exact ⟨r.set (.inl rfl) 19 v, g.z5.step s (by decide), g.z18.step s (by decide), g.z20.step s (by decide)⟩

theorem li_plain {w W W' : World} {tag tag' : Nat → Nat} {br n K rc : Nat} {TF : Nat → Value} {l : Nat → Nat} {A : Nat → Nat → Addr} {tao ro : Option Addr} {v : Value} {S : Nat → Prop} (hs : Step S w tag W tag') (h0 : ¬ S 0) (h2 : ¬ S 2) (h6 : ∀ t, 6 ≤ t → ¬ S t) (ht : tag' br = 1) (hb : br < W.heap.size)
    (ho : Own w 50 6 tao K K TF) (ha : At tag tao 2) (hold : ∀ j, j < K → OldE w tag TF l A j) (hg : W.grownBy W' none) (hro : Own W' 50 6 ro rc rc (ext 6 zTim (K * 6) TF)) (hn : ro = tao ∨ ∃ g, ro = some ⟨g, 0, none⟩ ∧ W.heap.size ≤ g) :
    LI (W'.setCell ⟨br, 19, none⟩ v) (tg tag' W.heap.size 2) 2 n (l2 K l) A (ext 6 zTim (K * 6) TF) ro rc 0 (W'.setCell ⟨br, 19, none⟩ v) (tg tag' W.heap.size 2) (ext 6 zTim (K * 6) TF) := by
  have s1 : Step (fun t => t = 1) W tag' W' (tg tag' W.heap.size 2) := Step.grew hg 2
  have tb : tg tag' W.heap.size 2 br = 1 := (tg_old hb).trans ht
  have s2 : Step (fun t => t = 1) W' (tg tag' W.heap.size 2) (W'.setCell ⟨br, 19, none⟩ v) (tg tag' W.heap.size 2) := Step.setCell _ tb
  have ar : At (tg tag' W.heap.size 2) ro 2 := at_new (hs.own ho ha h2) (hs.at_ ho ha) hn
  refine ⟨Step.refl, s2.own hro ar (by decide), ar, fun j hj => by omega, fun j _ hj => ?_, fun _ _ _ _ _ => rfl⟩
  have q := two_old (fun j hj => (hold j hj).step hs h0 (h6 _ (by omega)) rfl rfl) (s1.trans s2) (by decide) (fun t h => by omega) j
  exact q

theorem done_plain {w W6 W : World} {tag tag6 tag' : Nat → Nat} {br n K rc : Nat} {T : Int} {R : Nat → Value} {l : Nat → Nat} {A : Nat → Nat → Addr} {TF TF' : Nat → Value} {gt : Nat} {v5 v18 v20 : Value} (hrc : 2 ≤ rc)
    (g : G3 w tag br n (upd (Rz R n T v5 v18 v20) 19 (.slice (some ⟨gt, 0, none⟩) 2 rc)) v5 v18 v20 W6 tag6) (h : LI W6 tag6 2 n (l2 K l) A (ext 6 zTim (K * 6) TF) (some ⟨gt, 0, none⟩) rc 2 W tag' TF') :
    Done w tag br n T R 2 (fun _ => l2 K l 0) (fun _ => A 0) (ext 6 zTim (K * 6) TF) (W.setCell ⟨gt, 6, none⟩ (TF' 0)) tag' (upd (Rz R n T v5 v18 v20) 19 (.slice (some ⟨gt, 0, none⟩) 2 rc)) (upd TF' 6 (TF' 0)) (some ⟨gt, 0, none⟩) rc := by
  have s2 : Step (fun t => t = 2 ∨ (6 ≤ t ∧ t < 6 + 2)) W tag' (W.setCell ⟨gt, 6, none⟩ (TF' 0)) tag' := Step.setCell _ (.inl (h.at_ ⟨gt, 0, none⟩ rfl))
  have s2' : Step (fun t => t = 2) W tag' (W.setCell ⟨gt, 6, none⟩ (TF' 0)) tag' := Step.setCell _ (h.at_ ⟨gt, 0, none⟩ rfl)
  have s := h.step.trans s2
  refine ⟨(g.run.step.mono fun t h => s4_ne h).trans (s.mono fun t h => by omega), s.row g.run.row g.run.tbr (by omega), rfl, rfl, rfl, rfl, rfl, rfl, g.z5.step s (by omega), g.z18.step s (by omega), g.z20.step s (by omega), rfl, (h.own.put 6 (TF' 0)).shrink hrc, fun j hj => ?_, fun j hj c h2 h6 => (upd_other _ (by omega)).trans (h.rest j hj c h2 h6)⟩
  obtain ⟨pa, pc, sa, sc, h1, h2, h3, h4, h5, h6⟩ := h.new 0 (by omega)
  have hp : Own (W.setCell ⟨gt, 6, none⟩ (TF' 0)) 58 1 pa n pc (pf (l2 K l 0) (A 0)) := s2'.own h3 h4 (by omega)
  match j, hj with
  | 0, _ => exact ⟨pa, pc, sa, sc, (upd_other _ (by omega)).trans h1, (upd_other _ (by omega)).trans h2, hp, s2'.own h5 h6 (by omega)⟩
  | 1, _ =>
    obtain ⟨_, _, sa1, sc1, _, k2, _, _, k5, k6⟩ := h.new 1 (by omega)
    exact ⟨pa, pc, sa1, sc1, (upd_same _ _ _).trans h1, (upd_other _ (by omega)).trans k2, hp, s2'.own k5 k6 (by omega)⟩

theorem Step.drew {S : Nat → Prop} {w W : World} {tag tag' : Nat → Nat} (h : Step S w tag W tag') : Step S w tag W.drew tag' := ⟨h.os, h.tape, h.output, h.size, h.agree, h.block⟩
theorem Done.drew {w W : World} {tag tag' : Nat → Nat} {br n K cap : Nat} {T : Int} {R R' TF1 TF : Nat → Value} {l : Nat → Nat} {A : Nat → Nat → Addr} {tao : Option Addr} (h : Done w tag br n T R K l A TF1 W tag' R' TF tao cap) : Done w tag br n T R K l A TF1 W.drew tag' R' TF tao cap :=
  ⟨h.step.drew, h.row, h.n7, h.t8, h.s4, h.s9, h.s21, h.s22, h.z5, h.z18, h.z20, h.t19, h.own, h.new, h.rest⟩

/-- What 'resize' of a runner that does not share leaves. -/
def PlainEnd (w : World) (tag : Nat → Nat) (br n : Nat) (T : Int) (R : Nat → Value) (K : Nat) (l : Nat → Nat) (A : Nat → Nat → Addr) (TF : Nat → Value) (e : Ending) (w' : World) : Prop :=
  e = .returned (.tuple #[]) ∧ ∃ tag' R' TF' tao' cap', Done w tag br n T R 2 (fun _ => l2 K l 0) (fun _ => A 0) (ext 6 zTim (K * 6) TF) w' tag' R' TF' tao' cap' ∧ TF' 6 = TF' 0

set_option maxHeartbeats 4000000 in
set_option maxRecDepth 100000 in
theorem resize_plain (br n K : Nat) (T : Int) (R : Nat → Value) (tag : Nat → Nat) (tao : Option Addr) (TF : Nat → Value) (l : Nat → Nat) (A : Nat → Nat → Addr) (w : World) (hn : n ≤ 600) (hk2 : K ≤ 2) (h : Pre w tag br R false K tao TF l A) :
    Calls Yba.prog 9 #[.pointer (some ⟨br, 0, none⟩), .agg #[.int .i64 n, .int .i64 T]] w (PlainEnd w tag br n T R K l A TF) := by
  have H := hid h
  have hn2 : n ≤ 2000 := by omega
  have hb := h.row.lt
  have c7 := h.row.cell (i := 7) (by omega)
  have c8 := h.row.cell (i := 8) (by omega)
  have f7 := h.row.frozen 7
  have f8 := h.row.frozen 8
  clear h
  go_enter Yba.func9, Yba.ntmps9
  go_upto_region 3 with fail
  obtain ⟨R1, hR1⟩ : ∃ R1, R1 = upd (upd R 7 (.int .i64 n)) 8 (.int .i64 T) := ⟨_, rfl⟩
  refine wp_gen (fun W => ∃ tag1, Rn (fun t => t = 1) w tag br R1 W tag1) ?_ ?_
  · refine ⟨tg tag w.heap.size 0, ?_⟩
    rw [hR1]
    have r := ((Rn.start (S := fun t => t = 1) H.out.row H.out.tbr).set rfl 7 (.int .i64 n)).set rfl 8 (.int .i64 T)
    have s := Step.alloc (S := fun _ => False) (W := (w.setCell ⟨br, 7, none⟩ (.int .i64 n)).setCell ⟨br, 8, none⟩ (.int .i64 T)) (tag := tag) (Obj.cells #[Value.int IntKind.i64 n, Value.int IntKind.i64 T] 31) 0
    have q := r.on s (fun _ h => h.elim) (fun h => h)
    simpa using q
  rintro W1 ⟨tag1, r1⟩
  clear c7 c8 f7 f8
  obtain ⟨oo, om, oc, fo, e5, o5, a5⟩ := H.out.o
  obtain ⟨ho, hm, hc, fh, e18, o18, a18⟩ := H.out.h
  obtain ⟨vo, vm, vc, fv, e20, o20, a20⟩ := H.out.v
  have e5' : R1 5 = .slice oo om oc := by rw [hR1]; exact e5
  have e18' : R1 18 = .slice ho hm hc := by rw [hR1]; exact e18
  have e20' : R1 20 = .slice vo vm vc := by rw [hR1]; exact e20
  have O5 := hid (r1.step.own o5 a5 (by decide))
  have O18 := hid (r1.step.own o18 a18 (by decide))
  have O20 := hid (r1.step.own o20 a20 (by decide))
  have A5 := hid (r1.step.at_ o5 a5)
  have A18 := hid (r1.step.at_ o18 a18)
  have A20 := hid (r1.step.at_ o20 a20)
  have l5 := o5.cap_le.2
  have l18 := o18.cap_le.2
  have l20 := o20.cap_le.2
  have b1 := r1.row.lt
  have c5 := r1.row.cell (i := 5) (by omega)
  have c18 := r1.row.cell (i := 18) (by omega)
  have c20 := r1.row.cell (i := 20) (by omega)
  rw [e5'] at c5
  rw [e18'] at c18
  rw [e20'] at c20
  have RN := hid (r1.mono (S' := S4) fun t h => .inl h)
  have HR1 := hid hR1
  have E5 := hid e5'
  have E18 := hid e18'
  have E20 := hid e20'
  clear r1 o5 o18 o20 a5 a18 a20 e5 e18 e20 hR1 e5' e18' e20'
  go_cut [] from 13 to 41 (fun wx => P3 w tag br n R1 wx)
  case first =>
    have HS : W1.drew.cell? ⟨br, 5, none⟩ = some (.slice oo om oc) ∧ W1.drew.cell? ⟨br, 18, none⟩ = some (.slice ho hm hc) ∧ W1.drew.cell? ⟨br, 20, none⟩ = some (.slice vo vm vc) := ⟨c5, c18, c20⟩
    refine Until.begin (by kernel_rfl) (fun W => W.cell? ⟨br, 5, none⟩ = some (.slice oo om oc) ∧ W.cell? ⟨br, 18, none⟩ = some (.slice ho hm hc) ∧ W.cell? ⟨br, 20, none⟩ = some (.slice vo vm vc)) 25 ?_
    refine Until.takeWD (i := 0) (v := ?_) 13 rfl rfl (by kernel_rfl) (by kernel_rfl) (by kernel_rfl) rfl (fun _ _ _ h => h) (Or.inl ⟨by rfl, ?_⟩) (fun _ => HS) ?_
    rotate_left
    · intro w; go_simp; try with_reducible rfl
    simp only [List.setIfInBounds_toArray, List.set_cons_zero, List.set_cons_succ]
    refine Until.takeWD (i := 1) (v := ?_) 14 rfl rfl (by kernel_rfl) (by kernel_rfl) (by kernel_rfl) rfl (fun _ _ _ h => h) (Or.inl ⟨by rfl, ?_⟩) (fun _ => HS) ?_
    rotate_left
    · intro w; go_simp; try with_reducible rfl
    simp only [List.setIfInBounds_toArray, List.set_cons_zero, List.set_cons_succ]
    refine Until.takeWD (i := 2) (v := ?_) 15 rfl rfl (by kernel_rfl) (by kernel_rfl) (by kernel_rfl) rfl (fun _ _ _ h => h) (Or.inl ⟨by rfl, ?_⟩) (fun _ => HS) ?_
    rotate_left
    · intro w; go_simp; try with_reducible rfl
    simp only [List.setIfInBounds_toArray, List.set_cons_zero, List.set_cons_succ]
    refine Until.takeWD (i := 3) (v := ?_) 16 rfl rfl (by kernel_rfl) (by kernel_rfl) (by kernel_rfl) rfl (fun _ _ _ h => h) (Or.inl ⟨by rfl, ?_⟩) (fun _ => HS) ?_
    rotate_left
    · intro w; go_simp; try with_reducible rfl
    simp only [List.setIfInBounds_toArray, List.set_cons_zero, List.set_cons_succ]
    refine Until.takeWD (i := 4) (v := ?_) 17 rfl rfl (by kernel_rfl) (by kernel_rfl) (by kernel_rfl) rfl (fun _ _ _ h => h) (Or.inl ⟨by rfl, ?_⟩) (fun _ => HS) ?_
    rotate_left
    · intro w; go_simp; try with_reducible rfl
    simp only [List.setIfInBounds_toArray, List.set_cons_zero, List.set_cons_succ]
    refine Until.takeWD (i := 5) (v := ?_) 18 rfl rfl (by kernel_rfl) (by kernel_rfl) (by kernel_rfl) rfl (fun _ _ _ h => h) (Or.inl ⟨by rfl, ?_⟩) (fun _ => HS) ?_
    rotate_left
    · intro w; go_simp; try with_reducible rfl
    simp only [List.setIfInBounds_toArray, List.set_cons_zero, List.set_cons_succ]
    refine Until.takeWD (i := 6) (v := ?_) 19 rfl rfl (by kernel_rfl) (by kernel_rfl) (by kernel_rfl) rfl (fun _ _ _ h => h) (Or.inl ⟨by rfl, ?_⟩) (fun _ => HS) ?_
    rotate_left
    · intro w; go_simp; try with_reducible rfl
    simp only [List.setIfInBounds_toArray, List.set_cons_zero, List.set_cons_succ]
    refine Until.takeD (i := 7) (v := ?_) 20 rfl rfl (by kernel_rfl) (by kernel_rfl) (by kernel_rfl) (by kernel_rfl) (by kernel_rfl) (fun _ _ _ h => h) (Or.inl ⟨by rfl, ?_⟩) HS ?_
    rotate_left
    · intro w hSw; obtain ⟨s5, s18, s20⟩ := hSw; go_simp; try with_reducible rfl
    simp only [List.setIfInBounds_toArray, List.set_cons_zero, List.set_cons_succ]
    refine Until.takeWD (i := 8) (v := ?_) 21 rfl rfl (by kernel_rfl) (by kernel_rfl) (by kernel_rfl) rfl (fun _ _ _ h => h) (Or.inl ⟨by rfl, ?_⟩) (fun _ => HS) ?_
    rotate_left
    · intro w; go_simp; try with_reducible rfl
    simp only [List.setIfInBounds_toArray, List.set_cons_zero, List.set_cons_succ]
    refine Until.takeWD (i := 10) (v := ?_) 23 rfl rfl (by kernel_rfl) (by kernel_rfl) (by kernel_rfl) rfl (fun _ _ _ h => h) (Or.inl ⟨by rfl, ?_⟩) (fun _ => HS) ?_
    rotate_left
    · intro w; go_simp; try with_reducible rfl
    simp only [List.setIfInBounds_toArray, List.set_cons_zero, List.set_cons_succ]
    refine Until.takeWD (i := 11) (v := ?_) 24 rfl rfl (by kernel_rfl) (by kernel_rfl) (by kernel_rfl) rfl (fun _ _ _ h => h) (Or.inl ⟨by rfl, ?_⟩) (fun _ => HS) ?_
    rotate_left
    · intro w; go_simp; try with_reducible rfl
    simp only [List.setIfInBounds_toArray, List.set_cons_zero, List.set_cons_succ]
    refine Until.takeWD (i := 12) (v := ?_) 25 rfl rfl (by kernel_rfl) (by kernel_rfl) (by kernel_rfl) rfl (fun _ _ _ h => h) (Or.inl ⟨by rfl, ?_⟩) (fun _ => HS) ?_
    rotate_left
    · intro w; go_simp; try with_reducible rfl
    simp only [List.setIfInBounds_toArray, List.set_cons_zero, List.set_cons_succ]
    refine Until.takeD (i := 13) (v := ?_) 26 rfl rfl (by kernel_rfl) (by kernel_rfl) (by kernel_rfl) (by kernel_rfl) (by kernel_rfl) (fun _ _ _ h => h) (Or.inl ⟨by rfl, ?_⟩) HS ?_
    rotate_left
    · intro w hSw; obtain ⟨s5, s18, s20⟩ := hSw; go_simp; try with_reducible rfl
    simp only [List.setIfInBounds_toArray, List.set_cons_zero, List.set_cons_succ]
    refine Until.takeWD (i := 14) (v := ?_) 27 rfl rfl (by kernel_rfl) (by kernel_rfl) (by kernel_rfl) rfl (fun _ _ _ h => h) (Or.inl ⟨by rfl, ?_⟩) (fun _ => HS) ?_
    rotate_left
    · intro w; go_simp; try with_reducible rfl
    simp only [List.setIfInBounds_toArray, List.set_cons_zero, List.set_cons_succ]
    refine Until.takeWD (i := 16) (v := ?_) 29 rfl rfl (by kernel_rfl) (by kernel_rfl) (by kernel_rfl) rfl (fun _ _ _ h => h) (Or.inl ⟨by rfl, ?_⟩) (fun _ => HS) ?_
    rotate_left
    · intro w; go_simp; try with_reducible rfl
    simp only [List.setIfInBounds_toArray, List.set_cons_zero, List.set_cons_succ]
    refine Until.takeWD (i := 17) (v := ?_) 30 rfl rfl (by kernel_rfl) (by kernel_rfl) (by kernel_rfl) rfl (fun _ _ _ h => h) (Or.inl ⟨by rfl, ?_⟩) (fun _ => HS) ?_
    rotate_left
    · intro w; go_simp; try with_reducible rfl
    simp only [List.setIfInBounds_toArray, List.set_cons_zero, List.set_cons_succ]
    refine Until.takeWD (i := 18) (v := ?_) 31 rfl rfl (by kernel_rfl) (by kernel_rfl) (by kernel_rfl) rfl (fun _ _ _ h => h) (Or.inl ⟨by rfl, ?_⟩) (fun _ => HS) ?_
    rotate_left
    · intro w; go_simp; try with_reducible rfl
    simp only [List.setIfInBounds_toArray, List.set_cons_zero, List.set_cons_succ]
    refine Until.takeD (i := 19) (v := ?_) 32 rfl rfl (by kernel_rfl) (by kernel_rfl) (by kernel_rfl) (by kernel_rfl) (by kernel_rfl) (fun _ _ _ h => h) (Or.inl ⟨by rfl, ?_⟩) HS ?_
    rotate_left
    · intro w hSw; obtain ⟨s5, s18, s20⟩ := hSw; go_simp; try with_reducible rfl
    simp only [List.setIfInBounds_toArray, List.set_cons_zero, List.set_cons_succ]
    refine Until.takeWD (i := 20) (v := ?_) 33 rfl rfl (by kernel_rfl) (by kernel_rfl) (by kernel_rfl) rfl (fun _ _ _ h => h) (Or.inl ⟨by rfl, ?_⟩) (fun _ => HS) ?_
    rotate_left
    · intro w; go_simp; try with_reducible rfl
    simp only [List.setIfInBounds_toArray, List.set_cons_zero, List.set_cons_succ]
    refine Until.one (i := 9) (by kernel_rfl) rfl (fun K hK => ?_)
    go_simp
    refine Calls.mono (sizedOut_any oo om oc n fo _ hn2 l5 ?_) ?_
    · exact O5.out
    rintro e w2 ⟨r5, k5, rfl, q1, q2, q3⟩
    have X1 := hid (g1_of RN.out.drew A5.out O5.out q1 q2 q3)
    have s1 := (sized_step (tag := tag1) A5.out (W := W1.drew) O5.out q1 q2 q3).1
    have O18a := hid (s1.own (W := W1.drew) O18.out A18.out (by decide))
    have A18a := hid (s1.at_ (W := W1.drew) O18.out A18.out)
    have O20a := hid (s1.own (W := W1.drew) O20.out A20.out (by decide))
    have A20a := hid (s1.at_ (W := W1.drew) O20.out A20.out)
    clear HS
    have HS : w2.cell? ⟨br, 5, none⟩ = some (.slice oo om oc) ∧ w2.cell? ⟨br, 18, none⟩ = some (.slice ho hm hc) ∧ w2.cell? ⟨br, 20, none⟩ = some (.slice vo vm vc) := by
      have d := X1.out.run.row
      exact ⟨(d.cell (by omega)).trans (congrArg some E5.out), (d.cell (by omega)).trans (congrArg some E18.out), (d.cell (by omega)).trans (congrArg some E20.out)⟩
    dsimp only
    refine hK.out _ _ (fun _ => HS) ?_
    clear hK K q1 q2 q3 s1
    refine Until.one (i := 15) (by kernel_rfl) rfl (fun K hK => ?_)
    go_simp
    refine Calls.mono (sizedInt_any ho hm hc n fh _ hn2 l18 O18a.out) ?_
    rintro e w3 ⟨r18, k18, rfl, q1, q2, q3⟩
    have X2 := hid (g2_of X1.out A18a.out O18a.out q1 q2 q3)
    have s1 := (sized_step A18a.out O18a.out q1 q2 q3).1
    have O20b := hid (s1.own O20a.out A20a.out (by decide))
    have A20b := hid (s1.at_ O20a.out A20a.out)
    clear HS
    have HS : w3.cell? ⟨br, 5, none⟩ = some (.slice oo om oc) ∧ w3.cell? ⟨br, 18, none⟩ = some (.slice ho hm hc) ∧ w3.cell? ⟨br, 20, none⟩ = some (.slice vo vm vc) := by
      have d := X2.out.run.row
      exact ⟨(d.cell (by omega)).trans (congrArg some E5.out), (d.cell (by omega)).trans (congrArg some E18.out), (d.cell (by omega)).trans (congrArg some E20.out)⟩
    dsimp only
    refine hK.out _ _ (fun _ => HS) ?_
    clear hK K q1 q2 q3 s1
    refine Until.one (i := 21) (by kernel_rfl) rfl (fun K hK => ?_)
    go_simp
    refine Calls.mono (sizedAny_any vo vm vc n fv _ hn2 l20 O20b.out) ?_
    rintro e w4 ⟨r20, k20, rfl, q1, q2, q3⟩
    have X3 := hid (g3_of X2.out A20b.out O20b.out q1 q2 q3)
    have b4 := X3.out.run.row.lt
    have z5 := X3.out.run.row.frozen 5
    have z18 := X3.out.run.row.frozen 18
    have z20 := X3.out.run.row.frozen 20
    clear HS
    have HS : w4.cell? ⟨br, 5, none⟩ = some (.slice oo om oc) ∧ w4.cell? ⟨br, 18, none⟩ = some (.slice ho hm hc) ∧ w4.cell? ⟨br, 20, none⟩ = some (.slice vo vm vc) := by
      have d := X3.out.run.row
      exact ⟨(d.cell (by omega)).trans (congrArg some E5.out), (d.cell (by omega)).trans (congrArg some E18.out), (d.cell (by omega)).trans (congrArg some E20.out)⟩
    dsimp only
    refine hK.out _ _ (fun _ => HS) ?_
    clear hK K q1 q2 q3
    refine Until.takeWD (i := 22) (v := ?_) 35 rfl rfl (by kernel_rfl) (by kernel_rfl) (by kernel_rfl) rfl (fun _ _ _ h => h) (Or.inl ⟨by rfl, ?_⟩) (fun _ => HS) ?_
    rotate_left
    · intro w; go_simp; try with_reducible rfl
    simp only [List.setIfInBounds_toArray, List.set_cons_zero, List.set_cons_succ]
    refine Until.takeWD (i := 23) (v := ?_) 36 rfl rfl (by kernel_rfl) (by kernel_rfl) (by kernel_rfl) rfl (fun _ _ _ h => h) (Or.inl ⟨by rfl, ?_⟩) (fun _ => HS) ?_
    rotate_left
    · intro w; go_simp; try with_reducible rfl
    simp only [List.setIfInBounds_toArray, List.set_cons_zero, List.set_cons_succ]
    refine Until.takeWD (i := 24) (v := ?_) 37 rfl rfl (by kernel_rfl) (by kernel_rfl) (by kernel_rfl) rfl (fun _ _ _ h => h) (Or.inl ⟨by rfl, ?_⟩) (fun _ => HS) ?_
    rotate_left
    · intro w; go_simp; try with_reducible rfl
    simp only [List.setIfInBounds_toArray, List.set_cons_zero, List.set_cons_succ]
    obtain ⟨y5, y18, y20⟩ := HS
    refine Until.one (i := 25) (by kernel_rfl) rfl (fun K hK => ?_)
    go_simp
    refine hK.out _ _ (fun h => by cases h) ?_
    clear hK K
    refine Until.takeWD (i := 26) (v := ?_) 38 rfl rfl (by kernel_rfl) (by kernel_rfl) (by kernel_rfl) rfl (fun _ _ _ h => h) (Or.inl ⟨by rfl, ?_⟩) (fun h => by cases h) ?_
    rotate_left
    · intro w; go_simp; try with_reducible rfl
    simp only [List.setIfInBounds_toArray, List.set_cons_zero, List.set_cons_succ]
    refine Until.takeWD (i := 27) (v := ?_) 39 rfl rfl (by kernel_rfl) (by kernel_rfl) (by kernel_rfl) rfl (fun _ _ _ h => h) (Or.inl ⟨by rfl, ?_⟩) (fun h => by cases h) ?_
    rotate_left
    · intro w; go_simp; try with_reducible rfl
    simp only [List.setIfInBounds_toArray, List.set_cons_zero, List.set_cons_succ]
    refine Until.one (i := 28) (by kernel_rfl) rfl (fun K hK => ?_)
    go_simp
    refine hK.out _ _ (fun h => by cases h) ?_
    clear hK K
    refine Until.takeWD (i := 29) (v := ?_) 40 rfl rfl (by kernel_rfl) (by kernel_rfl) (by kernel_rfl) rfl (fun _ _ _ h => h) (Or.inl ⟨by rfl, ?_⟩) (fun h => by cases h) ?_
    rotate_left
    · intro w; go_simp; try with_reducible rfl
    simp only [List.setIfInBounds_toArray, List.set_cons_zero, List.set_cons_succ]
    refine Until.takeWD (i := 30) (v := ?_) 41 rfl rfl (by kernel_rfl) (by kernel_rfl) (by kernel_rfl) rfl (fun _ _ _ h => h) (Or.inl ⟨by rfl, ?_⟩) (fun h => by cases h) ?_
    rotate_left
    · intro w; go_simp; try with_reducible rfl
    simp only [List.setIfInBounds_toArray, List.set_cons_zero, List.set_cons_succ]
    refine Until.one (i := 31) (by kernel_rfl) rfl (fun K hK => ?_)
    go_simp
    refine hK.out _ _ (fun h => by cases h) ?_
    clear hK K
    refine Until.done (by kernel_rfl) ?_ _
    go_wp2
    go_meet
    case rel => exact ⟨_, _, _, _, g3_end X3.out⟩
  case rest =>
    clear O5 O18 O20 A5 A18 A20 l5 l18 l20 b1 c5 c18 c20 RN E5 E18 E20
    obtain ⟨v5, v18, v20, tag3, g⟩ := hcut
    have e1 := HR1.out
    subst e1
    have G := hid g
    have b3 := g.run.row.lt
    have y2 := g.run.row.cell (i := 2) (by omega)
    have y19 := g.run.row.cell (i := 19) (by omega)
    have x2 : upd (upd (upd (upd (upd R 7 (.int .i64 n)) 8 (.int .i64 T)) 5 v5) 18 v18) 20 v20 2 = .bool false := H.out.sh
    have x19 : upd (upd (upd (upd (upd R 7 (.int .i64 n)) 8 (.int .i64 T)) 5 v5) 18 v18) 20 v20 19 = .slice tao K K := H.out.t
    rw [x2] at y2
    rw [x19] at y19
    have hK := H.out.k
    have o0 := H.out.own
    have ow := g.run.step.own o0 H.out.at_ (by unfold S4; omega)
    have HC : Hid (Calls Yba.prog 22 #[.slice tao 0 K, .int .i64 2] wc (Grown1 50 6 zTim tao K 2 TF wc)) := growTim_any tao K 2 TF wc (by omega) o0.cap_le.2 ow
    clear g x2 x19 HR1 o0 ow
    go_wp2_with fail
    refine HC.out.mono ?_
    rintro e W5 ⟨r0, rc0, rfl, h1, h2, h3, h4, h5⟩
    have ge := hid (g3_times G.out h4 (.slice r0 2 rc0))
    have LE := hid (li_plain (n := n) (v := .slice r0 2 rc0) G.out.run.step (by unfold S4; omega) (by unfold S4; omega) (fun t h => by unfold S4; omega) G.out.run.tbr b3 H.out.own H.out.at_ H.out.old h4 h3 h5)
    have q5 := (G.out.run.on (Step.grew (S := fun _ => False) h4 2) (fun _ h => h.elim) (fun h => h)).row
    have b5 := q5.lt
    have y19b := q5.cell (i := 19) (by omega)
    have f19b := q5.frozen 19
    clear q5 h3 h4 h5 HC
    go_upto_region 6 with fail
    refine wp_gen (fun W => ∃ tag9, G3 w tag br n (upd (Rz R n T v5 v18 v20) 19 (.slice r0 2 rc0)) v5 v18 v20 W tag9 ∧ LI W tag9 2 n (l2 K l) A (ext 6 zTim (K * 6) TF) r0 rc0 0 W tag9 (ext 6 zTim (K * 6) TF)) ?_ ?_
    · exact ⟨_, ge.out, LE.out⟩
    clear ge LE b5 y19b f19b y2 y19 b3 G
    rintro W9 ⟨tag9, g9, l9⟩
    have G := hid g9
    have L0 := hid l9
    have b3 := g9.run.row.lt
    have y19 : W9.cell? ⟨br, 19, none⟩ = some (.slice r0 2 rc0) := g9.run.row.cell (i := 19) (by omega)
    clear g9 l9
    go_upto_region 7 with fail
    go_loopw [62] (fun si wr => ∃ (i : Nat) (tag' : Nat → Nat) (TF' : Nat → Value), i ≤ 2 ∧ si = .int .i64 i ∧ LI W9 tag9 2 n (l2 K l) A (ext 6 zTim (K * 6) TF) r0 rc0 i wr tag' TF') (fun si _ => 2 - (intOf si).toNat)
    case atStart => exact ⟨0, _, _, Nat.zero_le _, rfl, L0.out⟩
    case round =>
      clear L0 y19 b3
      obtain ⟨i, tag4, TF4, hi, rfl, L⟩ := hrel
      have q := L.step.row G.out.run.row G.out.run.tbr (by omega)
      have b4 := q.lt
      have y19 : wr.cell? ⟨br, 19, none⟩ = some (.slice r0 2 rc0) := q.cell (i := 19) (by omega)
      have y2 := q.cell (i := 2) (by omega)
      have x2 : upd (Rz R n T v5 v18 v20) 19 (.slice r0 2 rc0) 2 = .bool false := H.out.sh
      rw [x2] at y2
      clear q x2
      by_cases hlt : i < 2
      · obtain ⟨gt, rfl, lt, d0, fz0⟩ := L.own.cell (j := i * 6) (by omega)
        obtain ⟨pa, pm, pc, sa, sm, sc, f, t0, t1, hl, op, ap, os1, as1⟩ := L.old i (Nat.le_refl _) hlt
        rw [t0] at d0
        have HC : Hid (Calls Yba.prog 23 #[.slice pa 0 pc, .int .i64 n] wr (Grown1 58 1 zPrc pa pc n (pf (l2 K l i) (A i)) wr)) := growPrc_any pa pc n _ wr hn2 op.cap_le.2 op
        have HL := hid L
        have HO := hid op
        have HA := hid ap
        have HT := hid t1
        have HS := hid os1
        have HSA := hid as1
        have HLL := hid hl
        have ls := os1.cap_le.2
        clear L t0 t1 hl op ap os1 as1
        go_wp2_with fail
        refine HC.out.mono ?_
        rintro e W1 ⟨ro, rc, rfl, h1, h2, h3, h4, h5⟩
        have M := hid (HL.out.grow hlt HLL.out HO.out HA.out HT.out HS.out HSA.out h1 h3 h4 h5)
        have ot : Own W1 50 6 (some ⟨gt, 0, none⟩) rc0 rc0 TF4 := HL.out.own.of_block fun a ha => h4.block _ (HL.out.own.lt a ha) (by simp)
        obtain ⟨_, e9, lt1, d1, fz1⟩ := ot.cell (j := i * 6) (by omega)
        obtain rfl : gt = _ := by simpa using e9
        clear e9 ot h3 h4 h5 HL HO HA HT HS HSA HLL HC
        go_upto_region 11 with fail
        refine wp_gen (fun W => ∃ tag5 TF5, MI W9 tag9 2 n (l2 K l) A (ext 6 zTim (K * 6) TF) (some ⟨gt, 0, none⟩) rc0 i ro rc sa sm sc f W tag5 TF5) ?_ ?_
        · exact ⟨_, _, M.out⟩
        clear M lt1 d1 fz1 lt d0 fz0 b4 y19 y2
        rintro W2 ⟨tag5, TF5, m5⟩
        obtain ⟨_, e9, lt2, d2, fz2⟩ := m5.own.cell (j := i * 6 + 1) (by omega)
        obtain rfl : gt = _ := by simpa using e9
        rw [m5.s] at d2
        have HC : Hid (Calls Yba.prog 21 #[.slice sa sm sc, .int .i64 n] W2 (Sized1 20 1 zAny sa n W2)) := sizedAny_any sa sm sc n f W2 hn2 ls m5.so
        have M5 := hid m5
        clear m5 e9
        go_wp2_with fail
        refine HC.out.mono ?_
        rintro e W6 ⟨so, kc, rfl, k1, k2, k3⟩
        have N := hid (M5.out.size hlt k1 k2 k3)
        have ot : Own W6 50 6 (some ⟨gt, 0, none⟩) rc0 rc0 TF5 := (Step.grown (S := fun t => t = 6 + i) k2 M5.out.st rfl 0).own M5.out.own M5.out.at_ (by omega)
        obtain ⟨_, e9, lt1, d1, fz1⟩ := ot.cell (j := i * 6 + 1) (by omega)
        obtain rfl : gt = _ := by simpa using e9
        clear e9 ot k1 k2 k3 M5 HC lt2 d2 fz2
        go_wp2_with fail
        go_roundw
        case rel => exact ⟨i + 1, _, _, by omega, by go_num, N.out⟩
        case measure => simp [intOf]; omega
      · obtain rfl : i = 2 := by omega
        obtain ⟨gt, rfl, lt, d0, fz0⟩ := L.own.cell (j := 0) (by omega)
        obtain ⟨_, e9, lt1, d1, fz1⟩ := L.own.cell (j := 6) (by omega)
        obtain rfl : gt = _ := by simpa using e9
        have D := hid (done_plain h1 G.out L)
        have N0 := L.new 0 (by omega)
        obtain ⟨pa0, pc0, _, _, t0, _⟩ := N0
        rw [t0] at d0
        have T0 := hid t0
        clear L e9 t0
        go_wp2_with fail
        go_region
        go_wp2
        go_end0
        have d := D.out
        rw [T0.out] at d
        exact ⟨rfl, _, _, _, _, _, d.drew, (upd_same _ _ _).trans (T0.out.symm.trans (upd_other _ (by omega)).symm)⟩
end Go.Proofs.Ybulkdejs
