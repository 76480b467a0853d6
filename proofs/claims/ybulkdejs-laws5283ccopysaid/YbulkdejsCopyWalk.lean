/-
  THE WALK of 'LawS5283CCopy' (5).
-/
import Derived.Test.YbulkdejsGood
namespace Go.Proofs.Ybulkdejs
open Go.RowKit Go.Deep
set_option linter.unusedVariables false
set_option linter.unusedSimpArgs false

theorem big_as (z : Zp) (b : Bool) (h : z.big = b) (w : World) : Calls Yba.prog 13 #[z.val] w fun e w' => e = .returned (.bool b) ∧ w' = w.alloc (.cells z.cells 65) := by
  have := big_any z w
  rw [h] at this
  exact this

theorem not_big {z : Zp} (h : z.big = false) : z.nv ≤ 1024 ∧ z.na ≤ 1024 ∧ z.nc ≤ 1024 ∧ z.nt ≤ 1024 := by
  unfold Zp.big at h
  simp at h
  omega

set_option maxHeartbeats 1600000 in
set_option maxRecDepth 100000 in
theorem copy_big1 (p z : Zp) (w : World) (hb : p.big = true) :
    Calls Yba.prog 5 #[p.val, z.val] w fun e w' => e = .returned (.bool true) ∧ Below w.heap.size w w' := by
  have HB := hid (big_as p true hb)
  clear hb
  unfold Zp.val Zp.cells at *
  go_enter Yba.func5, Yba.ntmps5
  go_wp2_with (go_at_call 13; refine (HB.out _).mono ?_; rintro e w' ⟨rfl, rfl⟩)
  go_ret
  exact ⟨rfl, (((Below.refl _ _).alloc (Nat.le_refl _) _).alloc (by simp) _).alloc (by simp; omega) _⟩

set_option maxHeartbeats 1600000 in
set_option maxRecDepth 100000 in
theorem copy_big2 (p z : Zp) (w : World) (hb : p.big = false) (hb' : z.big = true) :
    Calls Yba.prog 5 #[p.val, z.val] w fun e w' => e = .returned (.bool true) ∧ Below w.heap.size w w' := by
  have HB := hid (big_as p false hb)
  have HB' := hid (big_as z true hb')
  clear hb hb'
  unfold Zp.val Zp.cells at *
  go_enter Yba.func5, Yba.ntmps5
  go_wp2_with fail
  refine (HB.out _).mono ?_
  rintro e w' ⟨rfl, rfl⟩
  go_wp2_with fail
  refine (HB'.out _).mono ?_
  rintro e w' ⟨rfl, rfl⟩
  go_wp2_with fail
  go_ret
  exact ⟨rfl, ((((Below.refl _ _).alloc (Nat.le_refl _) _).alloc (by simp) _).alloc (by simp; omega) _).alloc (by simp; omega) _⟩

theorem start4 {p z : Zp} {w X : World} (hX : X = (((w.alloc (.cells p.cells 65)).alloc (.cells z.cells 65)).alloc (.cells p.cells 65)).alloc (.cells z.cells 65)) :
    X.rowIs w.heap.size 65 11 (zcell p) ∧ X.rowIs (w.heap.size + 1) 65 11 (zcell z) ∧ Below w.heap.size w X ∧ w.heap.size + 1 < X.heap.size := by
  subst hX
  refine ⟨(((zcell_row w p).alloc _).alloc _).alloc _, ?_, ((((Below.refl _ _).alloc (Nat.le_refl _) _).alloc (by simp) _).alloc (by simp; omega) _).alloc (by simp; omega) _, by simp⟩
  have h := ((zcell_row (w.alloc (.cells p.cells 65)) z).alloc (.cells p.cells 65)).alloc (.cells z.cells 65)
  simpa using h

/-- The eleven cells of a box. -/
theorem boxcells {W : World} {b : Nat} {z : Zp} (hx : W.rowIs b 65 11 (zcell z)) :
    W.cell? ⟨b, 0, none⟩ = some (.int .i64 z.N) ∧ W.cell? ⟨b, 1, none⟩ = some (.int .i64 z.T) ∧ W.cell? ⟨b, 2, none⟩ = some (.int .i64 z.S) ∧ W.cell? ⟨b, 3, none⟩ = some (.int .i64 z.I) ∧
        W.cell? ⟨b, 4, none⟩ = some (.slice z.va z.nv z.kv) ∧ W.cell? ⟨b, 5, none⟩ = some (.int .i64 z.Lo) ∧ W.cell? ⟨b, 6, none⟩ = some (.bool z.Re) ∧ W.cell? ⟨b, 7, none⟩ = some (.int .i64 z.He) ∧
        W.cell? ⟨b, 8, none⟩ = some (.slice z.aa z.na z.ka) ∧ W.cell? ⟨b, 9, none⟩ = some (.slice z.ca z.nc z.kc) ∧ W.cell? ⟨b, 10, none⟩ = some (.slice z.ta z.nt z.kt) :=
  ⟨hx.cell (i := 0) (by omega), hx.cell (i := 1) (by omega), hx.cell (i := 2) (by omega), hx.cell (i := 3) (by omega), hx.cell (i := 4) (by omega), hx.cell (i := 5) (by omega), hx.cell (i := 6) (by omega), hx.cell (i := 7) (by omega), hx.cell (i := 8) (by omega), hx.cell (i := 9) (by omega), hx.cell (i := 10) (by omega)⟩

set_option maxHeartbeats 3200000 in
set_option maxRecDepth 100000 in
theorem copy_main (p z : Zp) (w : World) (hP : p.In w) (hZ : z.In w) (hb : p.big = false) (hb' : z.big = false) :
    Calls Yba.prog 5 #[p.val, z.val] w fun e w' => e = .returned (.bool true) ∧ Below w.heap.size w w' := by
  have HB := hid (big_as p false hb)
  have HB' := hid (big_as z false hb')
  obtain ⟨pv, pa, pc, pt⟩ := not_big hb
  obtain ⟨hv, ha, hc, ht⟩ := not_big hb'
  have HP := hid hP
  have HZ := hid hZ
  clear hb hb' hP hZ
  unfold Zp.val Zp.cells at *
  go_enter Yba.func5, Yba.ntmps5
  go_wp2_with fail
  refine (HB.out _).mono ?_
  rintro e w' ⟨rfl, rfl⟩
  go_wp2_with fail
  refine (HB'.out _).mono ?_
  rintro e X ⟨rfl, hX⟩
  obtain ⟨xp, xz, xb, xs⟩ := start4 hX
  have XZ := hid xz
  have XB := hid xb
  obtain ⟨i0, i1, i2, i3, i4, i5, i6, i7, i8, i9, i10⟩ := boxcells xp
  clear HB HB' hX xp xz xb
  go_wp2_with fail
  refine (build_any p X (HP.out.later XB.out) pv pa pc pt).mono ?_
  intro e w2 hbuilt
  obtain ⟨bp, vp, ap, cp, tp, kvp, kap, kcp, ktp, rfl, hproc, hbp, hbel2⟩ := builtAt hbuilt
  have xz2 := XZ.out.of_block (hbel2.block _ XZ.out.lt)
  have xb2 : Below w.heap.size w w2 := XB.out.trans (hbel2.mono (by omega))
  have hbp2 : w.heap.size + 1 < bp := by omega
  have PR := hid hproc
  have XZ2 := hid xz2
  have XB2 := hid xb2
  clear i0 i1 i2 i3 i4 i5 i6 i7 i8 i9 i10 hbuilt
  obtain ⟨i0, i1, i2, i3, i4, i5, i6, i7, i8, i9, i10⟩ := boxcells xz2
  clear hproc xz2 xb2 hbel2 XZ XB
  go_wp2_with fail
  refine (build_any z w2 (HZ.out.later XB2.out) hv ha hc ht).mono ?_
  intro e w3 hbuilt
  obtain ⟨bq, vq, aq, cq, tq, kvq, kaq, kcq, ktq, rfl, hprocq, hbq, hbel3⟩ := builtAt hbuilt
  have hp3 := PR.out.later hbel3
  have xz3 := XZ2.out.of_block (hbel3.block _ XZ2.out.lt)
  have xb3 : Below w.heap.size w w3 := XB2.out.trans (hbel3.mono (by have := XB2.out.size; omega))
  have hpl := PR.out.head.lt
  have hpq : bp < bq := by omega
  have lv : ∀ a, vp = some a → a.block < bq := fun a h => by have := PR.out.rv.lt a h; omega
  have lc : ∀ a, cp = some a → a.block < bq := fun a h => by have := PR.out.rc.lt a h; omega
  have lt : ∀ a, tp = some a → a.block < bq := fun a h => by have := PR.out.rt.lt a h; omega
  have offq : ∀ {x : Option Addr}, (∀ a, x = some a → a.block < bq) → Off x bq := fun hx a ha e => by have := hx a ha; omega
  have apq : ∀ {x y : Option Addr}, (∀ a, x = some a → a.block < bq) → (∀ a, y = some a → bq < a.block) → Apart x y := fun hx hy a b ha hb e => by have := hx a ha; have := hy b hb; omega
  have CF := copyFrom_any bp bq z p.N p.T p.S p.I p.Lo p.He p.Re vp ap cp tp vq aq cq tq p.nv kvp p.na kap p.nc kcp p.nt ktp kvq kaq kcq ktq _ _ _ _ w3 hp3.head hprocq.head hp3.rv hp3.rc hp3.rt hp3.ra hprocq.rv hprocq.rc hprocq.rt hv hc ht hp3.vc hp3.vt hp3.ct (apq lv hprocq.fc) (apq lv hprocq.ft) (apq lc hprocq.ft)
    (off_of hp3.fv (Nat.le_refl _)) (offq lv) (off_of hp3.fc (Nat.le_refl _)) (offq lc) (off_of hp3.ft (Nat.le_refl _)) (offq lt)
  have HCF := hid CF
  have PR3 := hid hp3
  have QR3 := hid hprocq
  have XZ3 := hid xz3
  have XB3 := hid xb3
  have LV := hid lv
  have LC := hid lc
  have LT := hid lt
  clear CF hp3 hprocq xz3 xb3 lv lc lt offq apq hbel3 PR XZ2 XB2 i0 i1 i2 i3 i4 i5 i6 i7 i8 i9 i10 hbuilt
  go_wp2_with (go_at_call 15; refine HCF.out.mono ?_)
  intro e w4 hcopied
  obtain ⟨r1, r2, r3, k1, k2, k3, rfl, hrow, o1, o2, o3, n1, n2, n3, a12, a13, a23, hleft⟩ := hcopied
  have hgood := good_of hbp2 hpq QR3.out.head.lt PR3.out LV.out LC.out LT.out QR3.out XZ3.out XB3.out hrow o1 o2 o3 n1 n2 n3 a12 a13 a23 hleft
  have HG := hid hgood
  clear hgood hrow o1 o2 o3 n1 n2 n3 a12 a13 a23 hleft HCF PR3 QR3 XZ3 XB3 LV LC LT
  have hz4 := HZ.out.later HG.out.bel
  have K16 := hid (c16 HG.out.hp)
  have K17v := hid (c17 (ca := k1) (cb := z.kv) hv HG.out.o1.ints hz4.v)
  have K18 := hid (c18 (ca := k2) (cb := z.kc) hc HG.out.o2.quads hz4.c)
  have K17t := hid (c17 (ca := k3) (cb := z.kt) ht HG.out.o3.ints hz4.t)
  have hS : ∀ W, Below w4.heap.size w4 W → (Below w4.heap.size w4 W ∧ W.cell? ⟨w.heap.size + 1, 0, none⟩ = some (.int .i64 z.N) ∧ W.cell? ⟨w.heap.size + 1, 1, none⟩ = some (.int .i64 z.T) ∧ W.cell? ⟨w.heap.size + 1, 2, none⟩ = some (.int .i64 z.S) ∧ W.cell? ⟨w.heap.size + 1, 3, none⟩ = some (.int .i64 z.I) ∧
        W.cell? ⟨w.heap.size + 1, 4, none⟩ = some (.slice z.va z.nv z.kv) ∧ W.cell? ⟨w.heap.size + 1, 5, none⟩ = some (.int .i64 z.Lo) ∧ W.cell? ⟨w.heap.size + 1, 6, none⟩ = some (.bool z.Re) ∧ W.cell? ⟨w.heap.size + 1, 7, none⟩ = some (.int .i64 z.He) ∧
        W.cell? ⟨w.heap.size + 1, 8, none⟩ = some (.slice z.aa z.na z.ka) ∧ W.cell? ⟨w.heap.size + 1, 9, none⟩ = some (.slice z.ca z.nc z.kc) ∧ W.cell? ⟨w.heap.size + 1, 10, none⟩ = some (.slice z.ta z.nt z.kt) ∧
      W.cell? ⟨bp, 4, none⟩ = some (.slice r1 z.nv k1) ∧ W.cell? ⟨bp, 8, none⟩ = some (.slice ap 0 kap) ∧ W.cell? ⟨bp, 9, none⟩ = some (.slice r2 z.nc k2) ∧ W.cell? ⟨bp, 10, none⟩ = some (.slice r3 z.nt k3)) := fun W hW => by
    have hg := HG.out.later hW
    have hr := hg.hp
    obtain ⟨j0, j1, j2, j3, j4, j5, j6, j7, j8, j9, j10⟩ := boxcells hg.box
    exact ⟨hW, j0, j1, j2, j3, j4, j5, j6, j7, j8, j9, j10, hr.cell (i := 4) (by omega), hr.cell (i := 8) (by omega), hr.cell (i := 9) (by omega), hr.cell (i := 10) (by omega)⟩
  have HS := hid hS
  have B0 : Below w4.heap.size w4 w4.drew := (Below.refl _ _).drew
  clear hS hz4
  unfold Zp.val Zp.cells at *
  go_wp2_with fail
  go_region_held3 (fun W => Below w4.heap.size w4 W ∧ W.cell? ⟨w.heap.size + 1, 0, none⟩ = some (.int .i64 z.N) ∧ W.cell? ⟨w.heap.size + 1, 1, none⟩ = some (.int .i64 z.T) ∧ W.cell? ⟨w.heap.size + 1, 2, none⟩ = some (.int .i64 z.S) ∧ W.cell? ⟨w.heap.size + 1, 3, none⟩ = some (.int .i64 z.I) ∧
        W.cell? ⟨w.heap.size + 1, 4, none⟩ = some (.slice z.va z.nv z.kv) ∧ W.cell? ⟨w.heap.size + 1, 5, none⟩ = some (.int .i64 z.Lo) ∧ W.cell? ⟨w.heap.size + 1, 6, none⟩ = some (.bool z.Re) ∧ W.cell? ⟨w.heap.size + 1, 7, none⟩ = some (.int .i64 z.He) ∧
        W.cell? ⟨w.heap.size + 1, 8, none⟩ = some (.slice z.aa z.na z.ka) ∧ W.cell? ⟨w.heap.size + 1, 9, none⟩ = some (.slice z.ca z.nc z.kc) ∧ W.cell? ⟨w.heap.size + 1, 10, none⟩ = some (.slice z.ta z.nt z.kt) ∧
        W.cell? ⟨bp, 4, none⟩ = some (.slice r1 z.nv k1) ∧ W.cell? ⟨bp, 8, none⟩ = some (.slice ap 0 kap) ∧ W.cell? ⟨bp, 9, none⟩ = some (.slice r2 z.nc k2) ∧ W.cell? ⟨bp, 10, none⟩ = some (.slice r3 z.nt k3))
    (exact HS.out _ (by assumption))
    (first
      | (go_at_call 16; refine (K16.out _ ?_).mono ?_; assumption; rintro e w' ⟨rfl, hb'⟩)
      | (go_at_call 18; refine (K18.out _ ?_).mono ?_; assumption; rintro e w' ⟨rfl, hb'⟩)
      | (go_at_call_of 17 r1; refine (K17v.out _ ?_).mono ?_; assumption; rintro e w' ⟨rfl, hb'⟩)
      | (go_at_call_of 17 r3; refine (K17t.out _ ?_).mono ?_; assumption; rintro e w' ⟨rfl, hb'⟩))
  have hg5 := HG.out.later hb'
  rename World => w5
  have HG5 := hid hg5
  clear hg5 hb' HG HS K16 K17v K18 K17t B0
  have hz5 := HZ.out.later HG5.out.bel
  have K16 := hid (c16 HG5.out.hq)
  have K17v := hid (c17 (ca := kvq) (cb := z.kv) hv HG5.out.qv.ints hz5.v)
  have K17a := hid (c17 (ca := kaq) (cb := z.ka) ha HG5.out.qa.ints hz5.a)
  have K18 := hid (c18 (ca := kcq) (cb := z.kc) hc HG5.out.qc.quads hz5.c)
  have K17t := hid (c17 (ca := ktq) (cb := z.kt) ht HG5.out.qt.ints hz5.t)
  have hS : ∀ W, Below w5.heap.size w5 W → (Below w5.heap.size w5 W ∧ W.cell? ⟨w.heap.size + 1, 0, none⟩ = some (.int .i64 z.N) ∧ W.cell? ⟨w.heap.size + 1, 1, none⟩ = some (.int .i64 z.T) ∧ W.cell? ⟨w.heap.size + 1, 2, none⟩ = some (.int .i64 z.S) ∧ W.cell? ⟨w.heap.size + 1, 3, none⟩ = some (.int .i64 z.I) ∧
        W.cell? ⟨w.heap.size + 1, 4, none⟩ = some (.slice z.va z.nv z.kv) ∧ W.cell? ⟨w.heap.size + 1, 5, none⟩ = some (.int .i64 z.Lo) ∧ W.cell? ⟨w.heap.size + 1, 6, none⟩ = some (.bool z.Re) ∧ W.cell? ⟨w.heap.size + 1, 7, none⟩ = some (.int .i64 z.He) ∧
        W.cell? ⟨w.heap.size + 1, 8, none⟩ = some (.slice z.aa z.na z.ka) ∧ W.cell? ⟨w.heap.size + 1, 9, none⟩ = some (.slice z.ca z.nc z.kc) ∧ W.cell? ⟨w.heap.size + 1, 10, none⟩ = some (.slice z.ta z.nt z.kt) ∧
      W.cell? ⟨bq, 4, none⟩ = some (.slice vq z.nv kvq) ∧ W.cell? ⟨bq, 8, none⟩ = some (.slice aq z.na kaq) ∧ W.cell? ⟨bq, 9, none⟩ = some (.slice cq z.nc kcq) ∧ W.cell? ⟨bq, 10, none⟩ = some (.slice tq z.nt ktq)) := fun W hW => by
    have hg := HG5.out.later hW
    have hr := hg.hq
    obtain ⟨j0, j1, j2, j3, j4, j5, j6, j7, j8, j9, j10⟩ := boxcells hg.box
    exact ⟨hW, j0, j1, j2, j3, j4, j5, j6, j7, j8, j9, j10, hr.cell (i := 4) (by omega), hr.cell (i := 8) (by omega), hr.cell (i := 9) (by omega), hr.cell (i := 10) (by omega)⟩
  have HS := hid hS
  have B0 : Below w5.heap.size w5 w5.drew := (Below.refl _ _).drew
  clear hS hz5
  unfold Zp.val Zp.cells at *
  go_wp2_with fail
  go_region_held3 (fun W => Below w5.heap.size w5 W ∧ W.cell? ⟨w.heap.size + 1, 0, none⟩ = some (.int .i64 z.N) ∧ W.cell? ⟨w.heap.size + 1, 1, none⟩ = some (.int .i64 z.T) ∧ W.cell? ⟨w.heap.size + 1, 2, none⟩ = some (.int .i64 z.S) ∧ W.cell? ⟨w.heap.size + 1, 3, none⟩ = some (.int .i64 z.I) ∧
        W.cell? ⟨w.heap.size + 1, 4, none⟩ = some (.slice z.va z.nv z.kv) ∧ W.cell? ⟨w.heap.size + 1, 5, none⟩ = some (.int .i64 z.Lo) ∧ W.cell? ⟨w.heap.size + 1, 6, none⟩ = some (.bool z.Re) ∧ W.cell? ⟨w.heap.size + 1, 7, none⟩ = some (.int .i64 z.He) ∧
        W.cell? ⟨w.heap.size + 1, 8, none⟩ = some (.slice z.aa z.na z.ka) ∧ W.cell? ⟨w.heap.size + 1, 9, none⟩ = some (.slice z.ca z.nc z.kc) ∧ W.cell? ⟨w.heap.size + 1, 10, none⟩ = some (.slice z.ta z.nt z.kt) ∧
        W.cell? ⟨bq, 4, none⟩ = some (.slice vq z.nv kvq) ∧ W.cell? ⟨bq, 8, none⟩ = some (.slice aq z.na kaq) ∧ W.cell? ⟨bq, 9, none⟩ = some (.slice cq z.nc kcq) ∧ W.cell? ⟨bq, 10, none⟩ = some (.slice tq z.nt ktq))
    (exact HS.out _ (by assumption))
    (first
      | (go_at_call 16; refine (K16.out _ ?_).mono ?_; assumption; rintro e w' ⟨rfl, hb'⟩)
      | (go_at_call 18; refine (K18.out _ ?_).mono ?_; assumption; rintro e w' ⟨rfl, hb'⟩)
      | (go_at_call_of 17 vq; refine (K17v.out _ ?_).mono ?_; assumption; rintro e w' ⟨rfl, hb'⟩)
      | (go_at_call_of 17 tq; refine (K17t.out _ ?_).mono ?_; assumption; rintro e w' ⟨rfl, hb'⟩)
      | (go_at_call_of 17 aq; refine (K17a.out _ ?_).mono ?_; assumption; rintro e w' ⟨rfl, hb'⟩))
  have hg6 := HG5.out.later hb'
  rename World => w6
  have HG6 := hid hg6
  clear hg6 hb' HG5 HS K16 K17v K18 K17t K17a B0
  have hz6 := HZ.out.later HG6.out.bel
  have hb6 := hid HG6.out.bel
  clear hz6
  rename Below w5.heap.size w5 w6 ∧ _ => hh
  clear hh
  by_cases hnv : 0 < z.nv
  · obtain ⟨g1, e1, l1, v1, y1⟩ := HG6.out.o1.cell (j := 0) (by omega)
    obtain ⟨gv, ev, lv, vv, _⟩ := HG6.out.qv.cell (j := 0) (by omega)
    obtain ⟨bv, ov, ez, hbv, cv⟩ := HZ.out.v 0 hnv
    have m1 := HG6.out.c1.lo _ e1
    have m2 := HG6.out.c1.op _ e1
    have m3 := HG6.out.c1.oq _ e1
    have m4 := HG6.out.c1.v _ _ e1 ev
    simp only [] at m1 m2 m3 m4
    have u1 : w6.cell? ⟨g1, 0, none⟩ = some (.int .i64 (z.fV 0)) := v1
    have u2 : w6.cell? ⟨gv, 0, none⟩ = some (.int .i64 (z.fV 0)) := vv
    have u3 : w6.cell? ⟨bv, ov, none⟩ = some (.int .i64 (z.fV 0)) := (hb6.out.cell (by exact hbv)).trans cv
    have u4 : w6.cell? ⟨bp, 4, none⟩ = some (.slice (some ⟨g1, 0, none⟩) z.nv k1) := by rw [← e1]; exact HG6.out.hp.cell (i := 4) (by omega)
    have u5 : w6.cell? ⟨bq, 4, none⟩ = some (.slice (some ⟨gv, 0, none⟩) z.nv kvq) := by rw [← ev]; exact HG6.out.hq.cell (i := 4) (by omega)
    have u6 : w6.cell? ⟨w.heap.size + 1, 4, none⟩ = some (.slice (some ⟨bv, ov, none⟩) z.nv z.kv) := by rw [← ez]; exact HG6.out.box.cell (i := 4) (by omega)
    have u7 : g1 ≠ bv := by omega
    have uq : (0 : Int) < (z.nv : Int) := by omega
    have E1 := hid e1
    clear e1 ev ez v1 vv cv
    by_cases hnt : 0 < z.nt
    · obtain ⟨g3, e3, l3, v3, y3⟩ := HG6.out.o3.cell (j := 0) (by omega)
      obtain ⟨gt, et, lt, vt, _⟩ := HG6.out.qt.cell (j := 0) (by omega)
      obtain ⟨bt, ot, ezt, hbt, ct⟩ := HZ.out.t 0 hnt
      have n1 := HG6.out.c3.lo _ e3
      have n2 := HG6.out.c3.op _ e3
      have n3 := HG6.out.c3.oq _ e3
      have n4 := HG6.out.c3.t _ _ e3 et
      simp only [] at n1 n2 n3 n4
      have t1 : w6.cell? ⟨g3, 0, none⟩ = some (.int .i64 (z.fT 0)) := v3
      have t2 : w6.cell? ⟨gt, 0, none⟩ = some (.int .i64 (z.fT 0)) := vt
      have t3 : w6.cell? ⟨bt, ot, none⟩ = some (.int .i64 (z.fT 0)) := (hb6.out.cell (by exact hbt)).trans ct
      have t4 : w6.cell? ⟨bp, 10, none⟩ = some (.slice (some ⟨g3, 0, none⟩) z.nt k3) := by rw [← e3]; exact HG6.out.hp.cell (i := 10) (by omega)
      have t5 : w6.cell? ⟨bq, 10, none⟩ = some (.slice (some ⟨gt, 0, none⟩) z.nt ktq) := by rw [← et]; exact HG6.out.hq.cell (i := 10) (by omega)
      have t6 : w6.cell? ⟨w.heap.size + 1, 10, none⟩ = some (.slice (some ⟨bt, ot, none⟩) z.nt z.kt) := by rw [← ezt]; exact HG6.out.box.cell (i := 10) (by omega)
      have t7 : g3 ≠ bt := by omega
      have tq' : (0 : Int) < (z.nt : Int) := by omega
      have E3 := hid e3
      have ET := hid et
      clear e3 et ezt v3 vt ct
      have x1 : g1 ≠ g3 := HG6.out.a13 _ _ E1.out E3.out
      have x2 : g1 ≠ gt := HG6.out.c1.t _ _ E1.out ET.out
      have x3 : g1 ≠ bt := by omega
      by_cases hnc : 0 < z.nc
      · obtain ⟨g2, e2, l2, v2, y2⟩ := HG6.out.o2.cell (j := 1) (by omega)
        obtain ⟨gc, ec, lc, vc, _⟩ := HG6.out.qc.cell (j := 1) (by omega)
        obtain ⟨bc, oc, ezc, hbc, _, cc, _, _⟩ := HZ.out.c 0 hnc
        have s1 := HG6.out.c2.lo _ e2
        have s2 := HG6.out.c2.op _ e2
        have s3 := HG6.out.c2.oq _ e2
        have s4 := HG6.out.c2.c _ _ e2 ec
        simp only [] at s1 s2 s3 s4
        have d1 : w6.cell? ⟨g2, 1, none⟩ = some (.int .i64 (z.cV 0)) := v2
        have d2 : w6.cell? ⟨gc, 1, none⟩ = some (.int .i64 (z.cV 0)) := vc
        have d3 : w6.cell? ⟨bc, oc + 1, none⟩ = some (.int .i64 (z.cV 0)) := (hb6.out.cell (by exact hbc)).trans cc
        have d4 : w6.cell? ⟨bp, 9, none⟩ = some (.slice (some ⟨g2, 0, none⟩) z.nc k2) := by rw [← e2]; exact HG6.out.hp.cell (i := 9) (by omega)
        have d5 : w6.cell? ⟨bq, 9, none⟩ = some (.slice (some ⟨gc, 0, none⟩) z.nc kcq) := by rw [← ec]; exact HG6.out.hq.cell (i := 9) (by omega)
        have d6 : w6.cell? ⟨w.heap.size + 1, 9, none⟩ = some (.slice (some ⟨bc, oc, none⟩) z.nc z.kc) := by rw [← ezc]; exact HG6.out.box.cell (i := 9) (by omega)
        have d7 : g2 ≠ bc := by omega
        have dq : (0 : Int) < (z.nc : Int) := by omega
        have E2 := hid e2
        have EC := hid ec
        clear e2 ec ezc v2 vc cc
        have x4 : g1 ≠ g2 := HG6.out.a12 _ _ E1.out E2.out
        have x5 : g1 ≠ gc := HG6.out.c1.c _ _ E1.out EC.out
        have x6 : g1 ≠ bc := by omega
        have x7 : g3 ≠ g2 := fun e => HG6.out.a23 _ _ E2.out E3.out e.symm
        have x8 : g3 ≠ gc := HG6.out.c3.c _ _ E3.out EC.out
        have x9 : g3 ≠ bc := by omega
        go_wp2_with fail
        go_quiet (fail)
        go_wp2_with fail
        go_quiet (fail)
        go_wp2_with fail
        go_quiet (fail)
        go_wp2_with fail
        go_ret
        exact ⟨rfl, by repeat' (first | exact hb6.out | refine below_drewN ?_ _ | refine Below.drew ?_ | refine Below.setCell ?_ (by dsimp only; omega) _)⟩
      · have d4 : w6.cell? ⟨bp, 9, none⟩ = some (.slice r2 z.nc k2) := HG6.out.hp.cell (i := 9) (by omega)
        go_wp2_with fail
        go_quiet (fail)
        go_wp2_with fail
        go_quiet (fail)
        go_wp2_with fail
        go_ret
        exact ⟨rfl, by repeat' (first | exact hb6.out | refine below_drewN ?_ _ | refine Below.drew ?_ | refine Below.setCell ?_ (by dsimp only; omega) _)⟩
    · have t4 : w6.cell? ⟨bp, 10, none⟩ = some (.slice r3 z.nt k3) := HG6.out.hp.cell (i := 10) (by omega)
      by_cases hnc : 0 < z.nc
      · obtain ⟨g2, e2, l2, v2, y2⟩ := HG6.out.o2.cell (j := 1) (by omega)
        obtain ⟨gc, ec, lc, vc, _⟩ := HG6.out.qc.cell (j := 1) (by omega)
        obtain ⟨bc, oc, ezc, hbc, _, cc, _, _⟩ := HZ.out.c 0 hnc
        have s1 := HG6.out.c2.lo _ e2
        have s2 := HG6.out.c2.op _ e2
        have s3 := HG6.out.c2.oq _ e2
        have s4 := HG6.out.c2.c _ _ e2 ec
        simp only [] at s1 s2 s3 s4
        have d1 : w6.cell? ⟨g2, 1, none⟩ = some (.int .i64 (z.cV 0)) := v2
        have d2 : w6.cell? ⟨gc, 1, none⟩ = some (.int .i64 (z.cV 0)) := vc
        have d3 : w6.cell? ⟨bc, oc + 1, none⟩ = some (.int .i64 (z.cV 0)) := (hb6.out.cell (by exact hbc)).trans cc
        have d4 : w6.cell? ⟨bp, 9, none⟩ = some (.slice (some ⟨g2, 0, none⟩) z.nc k2) := by rw [← e2]; exact HG6.out.hp.cell (i := 9) (by omega)
        have d5 : w6.cell? ⟨bq, 9, none⟩ = some (.slice (some ⟨gc, 0, none⟩) z.nc kcq) := by rw [← ec]; exact HG6.out.hq.cell (i := 9) (by omega)
        have d6 : w6.cell? ⟨w.heap.size + 1, 9, none⟩ = some (.slice (some ⟨bc, oc, none⟩) z.nc z.kc) := by rw [← ezc]; exact HG6.out.box.cell (i := 9) (by omega)
        have d7 : g2 ≠ bc := by omega
        have dq : (0 : Int) < (z.nc : Int) := by omega
        have E2 := hid e2
        have EC := hid ec
        clear e2 ec ezc v2 vc cc
        have x4 : g1 ≠ g2 := HG6.out.a12 _ _ E1.out E2.out
        have x5 : g1 ≠ gc := HG6.out.c1.c _ _ E1.out EC.out
        have x6 : g1 ≠ bc := by omega
        go_wp2_with fail
        go_quiet (fail)
        go_wp2_with fail
        go_quiet (fail)
        go_wp2_with fail
        go_ret
        exact ⟨rfl, by repeat' (first | exact hb6.out | refine below_drewN ?_ _ | refine Below.drew ?_ | refine Below.setCell ?_ (by dsimp only; omega) _)⟩
      · have d4 : w6.cell? ⟨bp, 9, none⟩ = some (.slice r2 z.nc k2) := HG6.out.hp.cell (i := 9) (by omega)
        go_wp2_with fail
        go_quiet (fail)
        go_wp2_with fail
        go_ret
        exact ⟨rfl, by repeat' (first | exact hb6.out | refine below_drewN ?_ _ | refine Below.drew ?_ | refine Below.setCell ?_ (by dsimp only; omega) _)⟩
  · have u4 : w6.cell? ⟨bp, 4, none⟩ = some (.slice r1 z.nv k1) := HG6.out.hp.cell (i := 4) (by omega)
    by_cases hnt : 0 < z.nt
    · obtain ⟨g3, e3, l3, v3, y3⟩ := HG6.out.o3.cell (j := 0) (by omega)
      obtain ⟨gt, et, lt, vt, _⟩ := HG6.out.qt.cell (j := 0) (by omega)
      obtain ⟨bt, ot, ezt, hbt, ct⟩ := HZ.out.t 0 hnt
      have n1 := HG6.out.c3.lo _ e3
      have n2 := HG6.out.c3.op _ e3
      have n3 := HG6.out.c3.oq _ e3
      have n4 := HG6.out.c3.t _ _ e3 et
      simp only [] at n1 n2 n3 n4
      have t1 : w6.cell? ⟨g3, 0, none⟩ = some (.int .i64 (z.fT 0)) := v3
      have t2 : w6.cell? ⟨gt, 0, none⟩ = some (.int .i64 (z.fT 0)) := vt
      have t3 : w6.cell? ⟨bt, ot, none⟩ = some (.int .i64 (z.fT 0)) := (hb6.out.cell (by exact hbt)).trans ct
      have t4 : w6.cell? ⟨bp, 10, none⟩ = some (.slice (some ⟨g3, 0, none⟩) z.nt k3) := by rw [← e3]; exact HG6.out.hp.cell (i := 10) (by omega)
      have t5 : w6.cell? ⟨bq, 10, none⟩ = some (.slice (some ⟨gt, 0, none⟩) z.nt ktq) := by rw [← et]; exact HG6.out.hq.cell (i := 10) (by omega)
      have t6 : w6.cell? ⟨w.heap.size + 1, 10, none⟩ = some (.slice (some ⟨bt, ot, none⟩) z.nt z.kt) := by rw [← ezt]; exact HG6.out.box.cell (i := 10) (by omega)
      have t7 : g3 ≠ bt := by omega
      have tq' : (0 : Int) < (z.nt : Int) := by omega
      have E3 := hid e3
      have ET := hid et
      clear e3 et ezt v3 vt ct
      by_cases hnc : 0 < z.nc
      · obtain ⟨g2, e2, l2, v2, y2⟩ := HG6.out.o2.cell (j := 1) (by omega)
        obtain ⟨gc, ec, lc, vc, _⟩ := HG6.out.qc.cell (j := 1) (by omega)
        obtain ⟨bc, oc, ezc, hbc, _, cc, _, _⟩ := HZ.out.c 0 hnc
        have s1 := HG6.out.c2.lo _ e2
        have s2 := HG6.out.c2.op _ e2
        have s3 := HG6.out.c2.oq _ e2
        have s4 := HG6.out.c2.c _ _ e2 ec
        simp only [] at s1 s2 s3 s4
        have d1 : w6.cell? ⟨g2, 1, none⟩ = some (.int .i64 (z.cV 0)) := v2
        have d2 : w6.cell? ⟨gc, 1, none⟩ = some (.int .i64 (z.cV 0)) := vc
        have d3 : w6.cell? ⟨bc, oc + 1, none⟩ = some (.int .i64 (z.cV 0)) := (hb6.out.cell (by exact hbc)).trans cc
        have d4 : w6.cell? ⟨bp, 9, none⟩ = some (.slice (some ⟨g2, 0, none⟩) z.nc k2) := by rw [← e2]; exact HG6.out.hp.cell (i := 9) (by omega)
        have d5 : w6.cell? ⟨bq, 9, none⟩ = some (.slice (some ⟨gc, 0, none⟩) z.nc kcq) := by rw [← ec]; exact HG6.out.hq.cell (i := 9) (by omega)
        have d6 : w6.cell? ⟨w.heap.size + 1, 9, none⟩ = some (.slice (some ⟨bc, oc, none⟩) z.nc z.kc) := by rw [← ezc]; exact HG6.out.box.cell (i := 9) (by omega)
        have d7 : g2 ≠ bc := by omega
        have dq : (0 : Int) < (z.nc : Int) := by omega
        have E2 := hid e2
        have EC := hid ec
        clear e2 ec ezc v2 vc cc
        have x7 : g3 ≠ g2 := fun e => HG6.out.a23 _ _ E2.out E3.out e.symm
        have x8 : g3 ≠ gc := HG6.out.c3.c _ _ E3.out EC.out
        have x9 : g3 ≠ bc := by omega
        go_wp2_with fail
        go_quiet (fail)
        go_wp2_with fail
        go_quiet (fail)
        go_wp2_with fail
        go_ret
        exact ⟨rfl, by repeat' (first | exact hb6.out | refine below_drewN ?_ _ | refine Below.drew ?_ | refine Below.setCell ?_ (by dsimp only; omega) _)⟩
      · have d4 : w6.cell? ⟨bp, 9, none⟩ = some (.slice r2 z.nc k2) := HG6.out.hp.cell (i := 9) (by omega)
        go_wp2_with fail
        go_quiet (fail)
        go_wp2_with fail
        go_ret
        exact ⟨rfl, by repeat' (first | exact hb6.out | refine below_drewN ?_ _ | refine Below.drew ?_ | refine Below.setCell ?_ (by dsimp only; omega) _)⟩
    · have t4 : w6.cell? ⟨bp, 10, none⟩ = some (.slice r3 z.nt k3) := HG6.out.hp.cell (i := 10) (by omega)
      by_cases hnc : 0 < z.nc
      · obtain ⟨g2, e2, l2, v2, y2⟩ := HG6.out.o2.cell (j := 1) (by omega)
        obtain ⟨gc, ec, lc, vc, _⟩ := HG6.out.qc.cell (j := 1) (by omega)
        obtain ⟨bc, oc, ezc, hbc, _, cc, _, _⟩ := HZ.out.c 0 hnc
        have s1 := HG6.out.c2.lo _ e2
        have s2 := HG6.out.c2.op _ e2
        have s3 := HG6.out.c2.oq _ e2
        have s4 := HG6.out.c2.c _ _ e2 ec
        simp only [] at s1 s2 s3 s4
        have d1 : w6.cell? ⟨g2, 1, none⟩ = some (.int .i64 (z.cV 0)) := v2
        have d2 : w6.cell? ⟨gc, 1, none⟩ = some (.int .i64 (z.cV 0)) := vc
        have d3 : w6.cell? ⟨bc, oc + 1, none⟩ = some (.int .i64 (z.cV 0)) := (hb6.out.cell (by exact hbc)).trans cc
        have d4 : w6.cell? ⟨bp, 9, none⟩ = some (.slice (some ⟨g2, 0, none⟩) z.nc k2) := by rw [← e2]; exact HG6.out.hp.cell (i := 9) (by omega)
        have d5 : w6.cell? ⟨bq, 9, none⟩ = some (.slice (some ⟨gc, 0, none⟩) z.nc kcq) := by rw [← ec]; exact HG6.out.hq.cell (i := 9) (by omega)
        have d6 : w6.cell? ⟨w.heap.size + 1, 9, none⟩ = some (.slice (some ⟨bc, oc, none⟩) z.nc z.kc) := by rw [← ezc]; exact HG6.out.box.cell (i := 9) (by omega)
        have d7 : g2 ≠ bc := by omega
        have dq : (0 : Int) < (z.nc : Int) := by omega
        have E2 := hid e2
        have EC := hid ec
        clear e2 ec ezc v2 vc cc
        go_wp2_with fail
        go_quiet (fail)
        go_wp2_with fail
        go_ret
        exact ⟨rfl, by repeat' (first | exact hb6.out | refine below_drewN ?_ _ | refine Below.drew ?_ | refine Below.setCell ?_ (by dsimp only; omega) _)⟩
      · have d4 : w6.cell? ⟨bp, 9, none⟩ = some (.slice r2 z.nc k2) := HG6.out.hp.cell (i := 9) (by omega)
        go_wp2_with fail
        go_ret
        exact ⟨rfl, by repeat' (first | exact hb6.out | refine below_drewN ?_ _ | refine Below.drew ?_ | refine Below.setCell ?_ (by dsimp only; omega) _)⟩

theorem copyLaw_any (p z : Zp) (w : World) (hP : p.In w) (hZ : z.In w) : Calls Yba.prog 5 #[p.val, z.val] w fun e w' => e = .returned (.bool true) ∧ Below w.heap.size w w' := by
  cases hb : p.big with
  | true => exact copy_big1 p z w hb
  | false =>
    cases hb' : z.big with
    | true => exact copy_big2 p z w hb hb'
    | false => exact copy_main p z w hP hZ hb hb'
end Go.Proofs.Ybulkdejs
