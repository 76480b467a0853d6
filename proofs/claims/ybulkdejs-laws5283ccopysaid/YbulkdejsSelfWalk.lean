/-
  THE WALK of 'LawS5283CSelf' (6).
-/
import Derived.Test.YbulkdejsCopyFrom
namespace Go.Proofs.Ybulkdejs
open Go.RowKit Go.Deep
set_option linter.unusedVariables false
set_option linter.unusedSimpArgs false

theorem Zp.In.later {w w' : World} {z : Zp} (h : z.In w) (hb : Below w.heap.size w w') : z.In w' :=
  ⟨h.v.later hb, h.a.later hb, h.t.later hb, h.c.later hb, h.v0, h.a0, h.t0, h.c0⟩

/-- What 'zzs5283cbuild' leaves, its block by a name. -/
def BuiltAt (w0 : World) (z : Zp) (e : Ending) (w' : World) : Prop :=
  ∃ bp v a c t kv ka kc kt, e = .returned (.pointer (some ⟨bp, 0, none⟩)) ∧ Proc w' bp z v a c t kv ka kc kt ∧ w0.heap.size ≤ bp ∧ Below w0.heap.size w0 w'

theorem builtAt {w0 w' : World} {z : Zp} {e : Ending} (h : Built w0 z e w') : BuiltAt w0 z e w' := by
  obtain ⟨v, a, c, t, kv, ka, kc, kt, h1, h2, h3⟩ := h
  exact ⟨w0.heap.size + 1, v, a, c, t, kv, ka, kc, kt, h1, h2, by omega, h3⟩

theorem off_of {x : Option Addr} {k m : Nat} (h : ∀ a, x = some a → m < a.block) (hk : k ≤ m) : Off x k := fun a ha e => by have := h a ha; omega

/-- Behind 'copyFrom': all that lay below the process is as it was. -/
theorem left_below {w w' : World} {bp B : Nat} {v c t : Option Addr} (h : Left3 w w' bp v c t) (hB : B ≤ bp) (hw : B ≤ w.heap.size) (fv : ∀ a, v = some a → bp < a.block) (fc : ∀ a, c = some a → bp < a.block) (ft : ∀ a, t = some a → bp < a.block) : Below B w w' :=
  ⟨h.os, h.tape, h.output, h.size, fun k hk => h.block k (by omega) (by omega) (off_of fv (by omega)) (off_of fc (by omega)) (off_of ft (by omega))⟩

section
variable {w3 : World} {z : Zp}
theorem c16 {bp : Nat} {v a c t : Value} (h : w3.rowIs bp 74 11 (pcell z.N z.T z.S z.I v z.Lo z.Re z.He a c t)) (W : World) (hb : Below w3.heap.size w3 W) :
    Calls Yba.prog 16 #[.pointer (some ⟨bp, 0, none⟩), z.val] W fun e w' => e = .returned (.bool true) ∧ Below w3.heap.size w3 w' := by
  refine (scalars_any bp z v a c t W (h.of_block (hb.block _ h.lt))).mono ?_
  rintro e w' ⟨rfl, n, rfl⟩
  exact ⟨rfl, below_drewN (hb.alloc hb.size _) _⟩
theorem c17 {ao bo : Option Addr} {n ca cb : Nat} {Z : Nat → Int} (hn : n ≤ 1024) (hA : Ints w3 ao n Z) (hB : Ints w3 bo n Z) (W : World) (hb : Below w3.heap.size w3 W) :
    Calls Yba.prog 17 #[.slice ao n ca, .slice bo n cb] W fun e w' => e = .returned (.bool true) ∧ Below w3.heap.size w3 w' := by
  refine (ints_any ao bo n ca cb Z W hn (hA.later hb) (hB.later hb)).mono ?_
  rintro e w' ⟨rfl, n, rfl⟩
  exact ⟨rfl, below_drewN hb _⟩
theorem c18 {ao bo : Option Addr} {n ca cb : Nat} {L V : Nat → Int} {H R : Nat → Bool} (hn : n ≤ 1024) (hA : Quads w3 ao n L V H R) (hB : Quads w3 bo n L V H R) (W : World) (hb : Below w3.heap.size w3 W) :
    Calls Yba.prog 18 #[.slice ao n ca, .slice bo n cb] W fun e w' => e = .returned (.bool true) ∧ Below w3.heap.size w3 w' := by
  refine (copies_any ao bo n ca cb L V H R W hn (hA.later hb) (hB.later hb)).mono ?_
  rintro e w' ⟨rfl, n, rfl⟩
  exact ⟨rfl, below_drewN hb _⟩
end

set_option maxHeartbeats 1600000 in
set_option maxRecDepth 100000 in
theorem self_any (z : Zp) (w : World) (hz : z.In w) :
    Calls Yba.prog 6 #[z.val] w fun e w' => e = .returned (.bool true) ∧ Below w.heap.size w w' := by
  have HZ := hid hz
  clear hz
  cases hbig : z.big with
  | true =>
    have HB := hid (show Calls Yba.prog 13 #[z.val] (w.alloc (.cells z.cells 65)) fun e w' => e = .returned (.bool true) ∧ w' = (w.alloc (.cells z.cells 65)).alloc (.cells z.cells 65) by have := big_any z (w.alloc (.cells z.cells 65)); rw [hbig] at this; exact this)
    clear hbig
    unfold Zp.val Zp.cells at *
    go_enter Yba.func6, Yba.ntmps6
    go_wp2_with (go_at_call 13; refine HB.out.mono ?_; rintro e w' ⟨rfl, rfl⟩)
    go_ret
    exact ⟨rfl, ((Below.refl _ _).alloc (Nat.le_refl _) _).alloc (by simp) _⟩
  | false =>
    obtain ⟨hv, ha, hc, ht⟩ : z.nv ≤ 1024 ∧ z.na ≤ 1024 ∧ z.nc ≤ 1024 ∧ z.nt ≤ 1024 := by
      unfold Zp.big at hbig
      simp at hbig
      omega
    have HB := hid (show Calls Yba.prog 13 #[z.val] (w.alloc (.cells z.cells 65)) fun e w' => e = .returned (.bool false) ∧ w' = (w.alloc (.cells z.cells 65)).alloc (.cells z.cells 65) by have := big_any z (w.alloc (.cells z.cells 65)); rw [hbig] at this; exact this)
    have hb0 : Below w.heap.size w ((w.alloc (.cells z.cells 65)).alloc (.cells z.cells 65)) := ((Below.refl _ _).alloc (Nat.le_refl _) _).alloc (by simp) _
    have HC := hid (build_any z ((w.alloc (.cells z.cells 65)).alloc (.cells z.cells 65)) (HZ.out.later hb0) hv ha hc ht)
    have HX := hid ((zcell_row w z).alloc (.cells z.cells 65))
    clear hbig hb0
    unfold Zp.val Zp.cells at *
    go_enter Yba.func6, Yba.ntmps6
    go_wp2_with (go_at_call 13; refine HB.out.mono ?_; rintro e w' ⟨rfl, rfl⟩)
    refine HC.out.mono ?_
    intro e w2 hbuilt
    obtain ⟨bp, v, a, c, t, kv, ka, kc, kt, rfl, hproc, hbp, hbel2⟩ := builtAt hbuilt
    clear hbuilt HC HB
    have hx2 := HX.out.of_block (hbel2.block _ HX.out.lt)
    have hbp' : w.heap.size < bp := by simp at hbp; omega
    have hbw2 : Below w.heap.size w w2 := (((Below.refl _ _).alloc (Nat.le_refl _) _).alloc (by simp) _).trans (hbel2.mono (by simp; omega))
    have HP := hid hproc
    have HX2 := hid hx2
    have HW2 := hid hbw2
    clear hproc hx2 hbw2 hbel2 HX
    have CF := copyFrom_any bp bp z z.N z.T z.S z.I z.Lo z.He z.Re v a c t v a c t z.nv kv z.na ka z.nc kc z.nt kt kv ka kc kt _ _ _ _ w2 HP.out.head HP.out.head HP.out.rv HP.out.rc HP.out.rt HP.out.ra HP.out.rv HP.out.rc HP.out.rt hv hc ht HP.out.vc HP.out.vt HP.out.ct HP.out.vc HP.out.vt HP.out.ct
      (off_of HP.out.fv (Nat.le_refl _)) (off_of HP.out.fv (Nat.le_refl _)) (off_of HP.out.fc (Nat.le_refl _)) (off_of HP.out.fc (Nat.le_refl _)) (off_of HP.out.ft (Nat.le_refl _)) (off_of HP.out.ft (Nat.le_refl _))
    have HCF := hid CF
    clear CF
    go_wp2_with (go_at_call 15; refine HCF.out.mono ?_)
    intro e w3 hcopied
    obtain ⟨r1, r2, r3, k1, k2, k3, rfl, hrow, o1, o2, o3, n1, n2, n3, a12, a13, a23, hleft⟩ := hcopied
    have hb3 : Below bp w2 w3 := left_below hleft (Nat.le_refl _) (Nat.le_of_lt HP.out.head.lt) HP.out.fv HP.out.fc HP.out.ft
    have hx3 := HX2.out.of_block (hb3.block _ hbp')
    have hbw3 : Below w.heap.size w w3 := HW2.out.trans (hb3.mono (by omega))
    have hz3 := HZ.out.later hbw3
    have K16 := hid (c16 hrow)
    have K17v := hid (c17 (ca := k1) (cb := z.kv) hv o1.ints hz3.v)
    have K18 := hid (c18 (ca := k2) (cb := z.kc) hc o2.quads hz3.c)
    have K17t := hid (c17 (ca := k3) (cb := z.kt) ht o3.ints hz3.t)
    have hS : ∀ W, Below w3.heap.size w3 W → (Below w3.heap.size w3 W ∧ W.cell? ⟨w.heap.size, 0, none⟩ = some (.int .i64 z.N) ∧ W.cell? ⟨w.heap.size, 1, none⟩ = some (.int .i64 z.T) ∧ W.cell? ⟨w.heap.size, 2, none⟩ = some (.int .i64 z.S) ∧ W.cell? ⟨w.heap.size, 3, none⟩ = some (.int .i64 z.I) ∧
        W.cell? ⟨w.heap.size, 4, none⟩ = some (.slice z.va z.nv z.kv) ∧ W.cell? ⟨w.heap.size, 5, none⟩ = some (.int .i64 z.Lo) ∧ W.cell? ⟨w.heap.size, 6, none⟩ = some (.bool z.Re) ∧ W.cell? ⟨w.heap.size, 7, none⟩ = some (.int .i64 z.He) ∧
        W.cell? ⟨w.heap.size, 8, none⟩ = some (.slice z.aa z.na z.ka) ∧ W.cell? ⟨w.heap.size, 9, none⟩ = some (.slice z.ca z.nc z.kc) ∧ W.cell? ⟨w.heap.size, 10, none⟩ = some (.slice z.ta z.nt z.kt) ∧
        W.cell? ⟨bp, 4, none⟩ = some (.slice r1 z.nv k1) ∧ W.cell? ⟨bp, 8, none⟩ = some (.slice a 0 ka) ∧ W.cell? ⟨bp, 9, none⟩ = some (.slice r2 z.nc k2) ∧ W.cell? ⟨bp, 10, none⟩ = some (.slice r3 z.nt k3)) := fun W hW => by
      have hx := hx3.of_block (hW.block _ hx3.lt)
      have hr := hrow.of_block (hW.block _ hrow.lt)
      exact ⟨hW, hx.cell (i := 0) (by omega), hx.cell (i := 1) (by omega), hx.cell (i := 2) (by omega), hx.cell (i := 3) (by omega), hx.cell (i := 4) (by omega), hx.cell (i := 5) (by omega), hx.cell (i := 6) (by omega), hx.cell (i := 7) (by omega), hx.cell (i := 8) (by omega), hx.cell (i := 9) (by omega), hx.cell (i := 10) (by omega),
        hr.cell (i := 4) (by omega), hr.cell (i := 8) (by omega), hr.cell (i := 9) (by omega), hr.cell (i := 10) (by omega)⟩
    have HS := hid hS
    have HW3 := hid hbw3
    have B0 : Below w3.heap.size w3 w3.drew := (Below.refl _ _).drew
    clear hS hbw3 hz3 hx3 hb3 hleft n1 n2 n3 a12 a13 a23 o1 o2 o3 hrow HX2 HW2 HP HCF
    unfold Zp.val Zp.cells at *
    go_wp2_with fail
    go_region_held3 (fun W => Below w3.heap.size w3 W ∧ W.cell? ⟨w.heap.size, 0, none⟩ = some (.int .i64 z.N) ∧ W.cell? ⟨w.heap.size, 1, none⟩ = some (.int .i64 z.T) ∧ W.cell? ⟨w.heap.size, 2, none⟩ = some (.int .i64 z.S) ∧ W.cell? ⟨w.heap.size, 3, none⟩ = some (.int .i64 z.I) ∧
        W.cell? ⟨w.heap.size, 4, none⟩ = some (.slice z.va z.nv z.kv) ∧ W.cell? ⟨w.heap.size, 5, none⟩ = some (.int .i64 z.Lo) ∧ W.cell? ⟨w.heap.size, 6, none⟩ = some (.bool z.Re) ∧ W.cell? ⟨w.heap.size, 7, none⟩ = some (.int .i64 z.He) ∧
        W.cell? ⟨w.heap.size, 8, none⟩ = some (.slice z.aa z.na z.ka) ∧ W.cell? ⟨w.heap.size, 9, none⟩ = some (.slice z.ca z.nc z.kc) ∧ W.cell? ⟨w.heap.size, 10, none⟩ = some (.slice z.ta z.nt z.kt) ∧
        W.cell? ⟨bp, 4, none⟩ = some (.slice r1 z.nv k1) ∧ W.cell? ⟨bp, 8, none⟩ = some (.slice a 0 ka) ∧ W.cell? ⟨bp, 9, none⟩ = some (.slice r2 z.nc k2) ∧ W.cell? ⟨bp, 10, none⟩ = some (.slice r3 z.nt k3))
      (exact HS.out _ (by assumption))
      (first
        | (go_at_call 16; refine (K16.out _ ?_).mono ?_; assumption; rintro e w' ⟨rfl, hb'⟩)
        | (go_at_call 18; refine (K18.out _ ?_).mono ?_; assumption; rintro e w' ⟨rfl, hb'⟩)
        | (go_at_call_of 17 r1; refine (K17v.out _ ?_).mono ?_; assumption; rintro e w' ⟨rfl, hb'⟩)
        | (go_at_call_of 17 r3; refine (K17t.out _ ?_).mono ?_; assumption; rintro e w' ⟨rfl, hb'⟩))
    all_goals go_wp2_with fail
    all_goals go_ret
    all_goals (refine ⟨rfl, ?_⟩; exact HW3.out.trans (Below.mono (by assumption) (by have := HW3.out.size; omega)))
end Go.Proofs.Ybulkdejs
