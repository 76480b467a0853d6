/-
  THE WALK of 'copyFrom' (15).
-/
import Derived.Test.YbulkdejsBuild
import Derived.Deep.RegionHeld3
namespace Go.Proofs.Ybulkdejs
open Go.RowKit Go.Deep
set_option linter.unusedVariables false
set_option linter.unusedSimpArgs false

/-- Nothing below has turned but the block bp and the blocks of three slices. -/
structure Left3 (w w' : World) (bp : Nat) (v c t : Option Addr) : Prop where
  os : w'.os = w.os
  tape : w'.tape = w.tape
  output : w'.output = w.output
  size : w.heap.size ≤ w'.heap.size
  block : ∀ k, k < w.heap.size → k ≠ bp → Off v k → Off c k → Off t k → w'.heap[k]? = w.heap[k]?

/-- The slice lies where y lay, or in new memory. -/
def NewOr (w : World) (x y : Option Addr) : Prop := x = y ∨ ∃ g, x = some ⟨g, 0, none⟩ ∧ w.heap.size ≤ g

/-- What 'p.copyFrom(q)' leaves, q a process built of z. -/
def Copied (w : World) (bp : Nat) (z : Zp) (vp cp tp ap : Option Addr) (kap : Nat) (e : Ending) (w' : World) : Prop :=
  ∃ v c t kv kc kt, e = .returned (.tuple #[]) ∧ w'.rowIs bp 74 11 (pcell z.N z.T z.S z.I (.slice v z.nv kv) z.Lo z.Re z.He (.slice ap 0 kap) (.slice c z.nc kc) (.slice t z.nt kt)) ∧
    Own w' 3 1 v z.nv kv (fI z.fV) ∧ Own w' 77 4 c z.nc kc (quadF z.cL z.cV z.cH z.cR) ∧ Own w' 3 1 t z.nt kt (fI z.fT) ∧ NewOr w v vp ∧ NewOr w c cp ∧ NewOr w t tp ∧ Apart v c ∧ Apart v t ∧ Apart c t ∧ Left3 w w' bp vp cp tp

theorem own_off {w w1 : World} {e size : Nat} {ao xo : Option Addr} {n cap : Nat} {f : Nat → Value} (h : Own w e size xo n cap f) (hg : w.grownBy w1 (blk ao)) (ha : Apart ao xo) : Own w1 e size xo n cap f :=
  h.grown hg fun x hx hb => by
    cases ao with
    | none => cases hb
    | some b => exact ha b x rfl hx (Option.some.inj hb).symm

theorem row_off {w w1 : World} {ao : Option Addr} {b t n : Nat} {f : Nat → Value} (h : w.rowIs b t n f) (hg : w.grownBy w1 (blk ao)) (ha : Off ao b) : w1.rowIs b t n f :=
  h.of_block (hg.block _ h.lt fun hb => by
    cases ao with
    | none => cases hb
    | some a => exact ha a rfl (Option.some.inj hb).symm)

theorem three {w : World} {b : Nat} {N T S I Lo He : Int} {Re : Bool} {v a c t : Value} (h : w.rowIs b 74 11 (pcell N T S I v Lo Re He a c t)) :
    w.cell? ⟨b, 4, none⟩ = some v ∧ w.cell? ⟨b, 9, none⟩ = some c ∧ w.cell? ⟨b, 10, none⟩ = some t :=
  ⟨h.cell (i := 4) (by omega), h.cell (i := 9) (by omega), h.cell (i := 10) (by omega)⟩

theorem fI_one (Z : Nat → Int) : ∀ j, (fI Z j).oneCell' = true := fun _ => rfl
theorem quadF_one (L V : Nat → Int) (H R : Nat → Bool) : ∀ j, (quadF L V H R j).oneCell' = true := fun j => by
  unfold quadF
  split
  · rfl
  · split
    · rfl
    · split <;> rfl
theorem le_maxLen {n : Nat} (h : n ≤ 1024) : n ≤ maxLen := by unfold maxLen; omega
theorem le_bytes8 {n : Nat} (h : n ≤ 1024) : n * 8 ≤ 140737488355328 := by omega
theorem le_bytes24 {n : Nat} (h : n ≤ 1024) : n * 24 ≤ 140737488355328 := by omega
theorem four_pos : 0 < 4 := by omega

theorem assert_any (a : Option Addr) (w : World) : (Instr.typeAssert (.iface 67 (.pointer a)) 58 67 false).run Yba.prog w = .ok (.pointer a) w := by kernel_rfl

/-- The stores of '*p = *from' and of the four fields. -/
def stored (w3 : World) (bp : Nat) (z : Zp) (vq aq cq tq r1 r2 r3 ap : Option Addr) (kvq kaq kcq ktq k1 k2 k3 kap : Nat) : World :=
  (((((((((((((((w3.setCell ⟨bp, 0, none⟩ (.int .i64 z.N)).setCell ⟨bp, 1, none⟩ (.int .i64 z.T)).setCell ⟨bp, 2, none⟩ (.int .i64 z.S)).setCell ⟨bp, 3, none⟩ (.int .i64 z.I)).setCell ⟨bp, 4, none⟩ (.slice vq z.nv kvq)).setCell ⟨bp, 5, none⟩ (.int .i64 z.Lo)).setCell ⟨bp, 6, none⟩ (.bool z.Re)).setCell ⟨bp, 7, none⟩ (.int .i64 z.He)).setCell ⟨bp, 8, none⟩ (.slice aq z.na kaq)).setCell ⟨bp, 9, none⟩ (.slice cq z.nc kcq)).setCell ⟨bp, 10, none⟩ (.slice tq z.nt ktq)).setCell ⟨bp, 4, none⟩ (.slice r1 z.nv k1)).setCell ⟨bp, 9, none⟩ (.slice r2 z.nc k2)).setCell ⟨bp, 10, none⟩ (.slice r3 z.nt k3)).setCell ⟨bp, 8, none⟩ (.slice ap 0 kap))

theorem stored_row {w3 : World} {bp : Nat} {f : Nat → Value} (h : w3.rowIs bp 74 11 f) (z : Zp) (vq aq cq tq r1 r2 r3 ap : Option Addr) (kvq kaq kcq ktq k1 k2 k3 kap : Nat) :
    (stored w3 bp z vq aq cq tq r1 r2 r3 ap kvq kaq kcq ktq k1 k2 k3 kap).rowIs bp 74 11 (pcell z.N z.T z.S z.I (.slice r1 z.nv k1) z.Lo z.Re z.He (.slice ap 0 kap) (.slice r2 z.nc k2) (.slice r3 z.nt k3)) := by
  refine ((((((((((((((((h.set 0 _).set 1 _).set 2 _).set 3 _).set 4 _).set 5 _).set 6 _).set 7 _).set 8 _).set 9 _).set 10 _).set 4 _).set 9 _).set 10 _).set 8 _)).congr fun i hi => ?_
  match i, hi with
  | 0, _ => rfl
  | 1, _ => rfl
  | 2, _ => rfl
  | 3, _ => rfl
  | 4, _ => rfl
  | 5, _ => rfl
  | 6, _ => rfl
  | 7, _ => rfl
  | 8, _ => rfl
  | 9, _ => rfl
  | 10, _ => rfl

theorem stored_other (w3 : World) (bp : Nat) (z : Zp) (vq aq cq tq r1 r2 r3 ap : Option Addr) (kvq kaq kcq ktq k1 k2 k3 kap : Nat) (k : Nat) (hk : k ≠ bp) :
    (stored w3 bp z vq aq cq tq r1 r2 r3 ap kvq kaq kcq ktq k1 k2 k3 kap).heap[k]? = w3.heap[k]? := by
  unfold stored
  repeat rw [Below.heap_setCell _ _ _ _ (by exact hk)]

theorem stored_size (w3 : World) (bp : Nat) (z : Zp) (vq aq cq tq r1 r2 r3 ap : Option Addr) (kvq kaq kcq ktq k1 k2 k3 kap : Nat) :
    (stored w3 bp z vq aq cq tq r1 r2 r3 ap kvq kaq kcq ktq k1 k2 k3 kap).heap.size = w3.heap.size := by
  simp [stored]

theorem set_same (w : World) (a : Addr) (v : Value) : (w.setCell a v).os = w.os ∧ (w.setCell a v).tape = w.tape ∧ (w.setCell a v).output = w.output := ⟨rfl, rfl, rfl⟩

theorem stored_same (w3 : World) (bp : Nat) (z : Zp) (vq aq cq tq r1 r2 r3 ap : Option Addr) (kvq kaq kcq ktq k1 k2 k3 kap : Nat) :
    (stored w3 bp z vq aq cq tq r1 r2 r3 ap kvq kaq kcq ktq k1 k2 k3 kap).os = w3.os ∧ (stored w3 bp z vq aq cq tq r1 r2 r3 ap kvq kaq kcq ktq k1 k2 k3 kap).tape = w3.tape ∧ (stored w3 bp z vq aq cq tq r1 r2 r3 ap kvq kaq kcq ktq k1 k2 k3 kap).output = w3.output := by
  unfold stored
  refine ⟨?_, ?_, ?_⟩
  · repeat rw [(set_same _ _ _).1]
  · repeat rw [(set_same _ _ _).2.1]
  · repeat rw [(set_same _ _ _).2.2]

theorem newOr_off {w : World} {x y : Option Addr} {b : Nat} (h : NewOr w x y) (hy : Off y b) (hb : b < w.heap.size) : Off x b := by
  intro a ha e
  rcases h with rfl | ⟨g, h1, h2⟩
  · exact hy a ha e
  · rw [h1] at ha
    obtain rfl := Option.some.inj ha
    simp at e
    omega

theorem newOr_apart {w : World} {x y u : Option Addr} (h : NewOr w x y) (hy : Apart y u) (hu : ∀ a, u = some a → a.block < w.heap.size) : Apart x u := by
  intro a b ha hb e
  rcases h with rfl | ⟨g, h1, h2⟩
  · exact hy a b ha hb e
  · rw [h1] at ha
    obtain rfl := Option.some.inj ha
    have := hu b hb
    simp at e
    omega

theorem copied_end {w w1 w2 w3 : World} {bp : Nat} {z : Zp} {vp cp tp ap r1 r2 r3 : Option Addr} {kap k1 k2 k3 : Nat} {f : Nat → Value} (vq aq cq tq : Option Addr) (kvq kaq kcq ktq : Nat)
    (hb : bp < w.heap.size) (lv : ∀ a, vp = some a → a.block < w.heap.size) (lc : ∀ a, cp = some a → a.block < w.heap.size) (lt : ∀ a, tp = some a → a.block < w.heap.size)
    (h3 : w3.rowIs bp 74 11 f) (o1 : Own w1 3 1 r1 z.nv k1 (fI z.fV)) (o2 : Own w2 77 4 r2 z.nc k2 (quadF z.cL z.cV z.cH z.cR)) (o3 : Own w3 3 1 r3 z.nt k3 (fI z.fT))
    (g1 : w.drew.grownBy w1 (blk vp)) (g2 : w1.grownBy w2 (blk cp)) (g3 : w2.grownBy w3 (blk tp)) (n1 : NewOr w.drew r1 vp) (n2 : NewOr w1 r2 cp) (n3 : NewOr w2 r3 tp)
    (d1 : Apart vp cp) (d2 : Apart vp tp) (d3 : Apart cp tp) (f1 : Off vp bp) (f2 : Off cp bp) (f3 : Off tp bp) :
    Copied w bp z vp cp tp ap kap (.returned (.tuple #[])) (stored w3 bp z vq aq cq tq r1 r2 r3 ap kvq kaq kcq ktq k1 k2 k3 kap) := by
  have n1' : NewOr w r1 vp := n1
  have s1 : w.heap.size ≤ w1.heap.size := g1.size
  have s2 := g2.size
  have s3 := g3.size
  have m2 : NewOr w r2 cp := by
    rcases n2 with h | ⟨g, h, h'⟩
    · exact .inl h
    · exact .inr ⟨g, h, by omega⟩
  have m3 : NewOr w r3 tp := by
    rcases n3 with h | ⟨g, h, h'⟩
    · exact .inl h
    · exact .inr ⟨g, h, by omega⟩
  have a1c : Apart r1 cp := newOr_apart n1' d1 lc
  have a1t : Apart r1 tp := newOr_apart n1' d2 lt
  have a2t : Apart r2 tp := newOr_apart m2 d3 lt
  have a12 : Apart r1 r2 := by
    rcases n2 with rfl | ⟨g, h, h'⟩
    · exact a1c
    · intro a b ha hb' e
      have := o1.lt a ha
      rw [h] at hb'
      obtain rfl := Option.some.inj hb'
      simp at e
      omega
  have a13 : Apart r1 r3 := by
    rcases n3 with rfl | ⟨g, h, h'⟩
    · exact a1t
    · intro a b ha hb' e
      have := o1.lt a ha
      rw [h] at hb'
      obtain rfl := Option.some.inj hb'
      simp at e
      omega
  have a23 : Apart r2 r3 := by
    rcases n3 with rfl | ⟨g, h, h'⟩
    · exact a2t
    · intro a b ha hb' e
      have := o2.lt a ha
      rw [h] at hb'
      obtain rfl := Option.some.inj hb'
      simp at e
      omega
  have b1 : Off r1 bp := newOr_off n1' f1 hb
  have b2 : Off r2 bp := newOr_off m2 f2 hb
  have b3 : Off r3 bp := newOr_off m3 f3 hb
  have keep := stored_other w3 bp z vq aq cq tq r1 r2 r3 ap kvq kaq kcq ktq k1 k2 k3 kap
  have o1' := own_off (own_off o1 g2 a1c.symm) g3 a1t.symm
  have o2' := own_off o2 g3 a2t.symm
  have ss := stored_same w3 bp z vq aq cq tq r1 r2 r3 ap kvq kaq kcq ktq k1 k2 k3 kap
  have sz := stored_size w3 bp z vq aq cq tq r1 r2 r3 ap kvq kaq kcq ktq k1 k2 k3 kap
  have sr := stored_row h3 z vq aq cq tq r1 r2 r3 ap kvq kaq kcq ktq k1 k2 k3 kap
  generalize stored w3 bp z vq aq cq tq r1 r2 r3 ap kvq kaq kcq ktq k1 k2 k3 kap = W at keep ss sz sr
  refine ⟨r1, r2, r3, k1, k2, k3, rfl, sr, o1'.of_block fun a ha => keep _ (b1 a ha), o2'.of_block fun a ha => keep _ (b2 a ha), o3.of_block fun a ha => keep _ (b3 a ha), n1', m2, m3, a12, a13, a23, ?_⟩
  refine ⟨?_, ?_, ?_, by rw [sz]; omega, fun k hk h4 h5 h6 h7 => ?_⟩
  · exact ss.1.trans (g3.os.trans (g2.os.trans g1.os))
  · exact ss.2.1.trans (g3.tape.trans (g2.tape.trans g1.tape))
  · exact ss.2.2.trans (g3.output.trans (g2.output.trans g1.output))
  · rw [keep k h4]
    have off : ∀ {ao : Option Addr}, Off ao k → some k ≠ blk ao := fun {ao} ho e => by
      cases ao with
      | none => cases e
      | some a => exact ho a rfl (Option.some.inj e).symm
    rw [g3.block k (by omega) (off h7), g2.block k (by omega) (off h6), g1.block k hk (off h5)]
    rfl

set_option maxHeartbeats 1600000 in
set_option maxRecDepth 100000 in
theorem copyFrom_any (bp bq : Nat) (z : Zp) (N T S I Lo He : Int) (Re : Bool) (vp ap cp tp vq aq cq tq : Option Addr) (nvp kvp nap kap ncp kcp ntp ktp kvq kaq kcq ktq : Nat) (f1 f2 f3 f4 : Nat → Value) (w : World)
    (hp : w.rowIs bp 74 11 (pcell N T S I (.slice vp nvp kvp) Lo Re He (.slice ap nap kap) (.slice cp ncp kcp) (.slice tp ntp ktp)))
    (hq : w.rowIs bq 74 11 (pcell z.N z.T z.S z.I (.slice vq z.nv kvq) z.Lo z.Re z.He (.slice aq z.na kaq) (.slice cq z.nc kcq) (.slice tq z.nt ktq)))
    (ov : Own w 3 1 vp nvp kvp f1) (oc : Own w 77 4 cp ncp kcp f2) (ot : Own w 3 1 tp ntp ktp f3) (oa : Own w 3 1 ap nap kap f4)
    (qv : Own w 3 1 vq z.nv kvq (fI z.fV)) (qc : Own w 77 4 cq z.nc kcq (quadF z.cL z.cV z.cH z.cR)) (qt : Own w 3 1 tq z.nt ktq (fI z.fT))
    (hv : z.nv ≤ 1024) (hc : z.nc ≤ 1024) (ht : z.nt ≤ 1024)
    (d1 : Apart vp cp) (d2 : Apart vp tp) (d3 : Apart cp tp) (d4 : Apart vp cq) (d5 : Apart vp tq) (d6 : Apart cp tq)
    (h1 : Off vp bp) (h2 : Off vp bq) (h3 : Off cp bp) (h4 : Off cp bq) (h5 : Off tp bp) (h6 : Off tp bq) :
    Calls Yba.prog 15 #[.pointer (some ⟨bp, 0, none⟩), .iface 67 (.pointer (some ⟨bq, 0, none⟩))] w (Copied w bp z vp cp tp ap kap) := by
  obtain ⟨i3, hi3, hz30, hz31, hz32⟩ := info_parts Yba.info3
  obtain ⟨i7, hi7, hz70, hz71, hz72⟩ := info_parts Yba.info77
  have hta := assert_any (some ⟨bq, 0, none⟩)
  have p4 : w.cell? ⟨bp, 4, none⟩ = some (.slice vp nvp kvp) := hp.cell (i := 4) (by omega)
  have p9 : w.cell? ⟨bp, 9, none⟩ = some (.slice cp ncp kcp) := hp.cell (i := 9) (by omega)
  have p10 : w.cell? ⟨bp, 10, none⟩ = some (.slice tp ntp ktp) := hp.cell (i := 10) (by omega)
  have q4 : w.cell? ⟨bq, 4, none⟩ = some (.slice vq z.nv kvq) := hq.cell (i := 4) (by omega)
  have q9 : w.cell? ⟨bq, 9, none⟩ = some (.slice cq z.nc kcq) := hq.cell (i := 9) (by omega)
  have q10 : w.cell? ⟨bq, 10, none⟩ = some (.slice tq z.nt ktq) := hq.cell (i := 10) (by omega)
  have HP := hid hp
  have HQ := hid hq
  have OV := hid ov
  have OC := hid oc
  have OT := hid ot
  have QV := hid qv
  have QC := hid qc
  have QT := hid qt
  have D1 := hid d1
  have D2 := hid d2
  have D3 := hid d3
  have D4 := hid d4
  have D5 := hid d5
  have D6 := hid d6
  have H1 := hid h1
  have H2 := hid h2
  have H3 := hid h3
  have H4 := hid h4
  have H5 := hid h5
  have H6 := hid h6
  clear hp hq ov oc ot oa qv qc qt d1 d2 d3 d4 d5 d6 h1 h2 h3 h4 h5 h6
  go_enter Yba.func15, Yba.ntmps15
  go_wp2_with fail
  go_region_held3 (fun w' => w'.cell? ⟨bp, 4, none⟩ = some (.slice vp nvp kvp) ∧ w'.cell? ⟨bp, 9, none⟩ = some (.slice cp ncp kcp) ∧ w'.cell? ⟨bp, 10, none⟩ = some (.slice tp ntp ktp) ∧
      w'.cell? ⟨bq, 4, none⟩ = some (.slice vq z.nv kvq) ∧ w'.cell? ⟨bq, 9, none⟩ = some (.slice cq z.nc kcq) ∧ w'.cell? ⟨bq, 10, none⟩ = some (.slice tq z.nt ktq))
    ((refine ⟨?_, ?_, ?_, ?_, ?_, ?_⟩ <;> first | assumption | (simp only [World.cell?_drew]; assumption)))
    (first
      | (refine step_append_zero rfl (.tmp 15) (.tmp 19) 26 rfl Yba.underlying26 hi3 hz30 hz31 hz32 rfl Nat.one_pos (ao := vp) (cap := kvp) rfl (OV.out.zero f1) (qo := vq) (m := z.nv) (qc := kvq) rfl QV.out (fI_one _) (le_maxLen hv) (le_bytes8 hv) ?_; intro r1 k1 w1 o1 g1 n1; have HP1 := hid (row_off HP.out.drew g1 H1.out); have HQ1 := hid (row_off HQ.out.drew g1 H2.out); have O1 := hid o1; have G1 := hid g1; have N1 := hid n1; clear o1 g1 n1; obtain ⟨s1, s2, s3⟩ := three HP1.out; obtain ⟨s4, s5, s6⟩ := three HQ1.out)
      | (refine step_append_zero rfl (.tmp 25) (.tmp 29) 72 rfl Yba.underlying72 hi7 hz70 hz71 hz72 rfl four_pos (ao := cp) (cap := kcp) rfl ((own_off (w := w.drew) OC.out G1.out D1.out).zero f2) (qo := cq) (m := z.nc) (qc := kcq) rfl (own_off (w := w.drew) QC.out G1.out D4.out) (quadF_one _ _ _ _) (le_maxLen hc) (le_bytes24 hc) ?_; intro r2 k2 w2 o2 g2 n2; have HP2 := hid (row_off HP1.out g2 H3.out); have HQ2 := hid (row_off HQ1.out g2 H4.out); have O2 := hid o2; have G2 := hid g2; have N2 := hid n2; clear o2 g2 n2; obtain ⟨s1, s2, s3⟩ := three HP2.out; obtain ⟨s4, s5, s6⟩ := three HQ2.out)
      | (refine step_append_zero rfl (.tmp 35) (.tmp 39) 26 rfl Yba.underlying26 hi3 hz30 hz31 hz32 rfl Nat.one_pos (ao := tp) (cap := ktp) rfl ((own_off (own_off (w := w.drew) OT.out G1.out D2.out) G2.out D3.out).zero f3) (qo := tq) (m := z.nt) (qc := ktq) rfl (own_off (own_off (w := w.drew) QT.out G1.out D5.out) G2.out D6.out) (fI_one _) (le_maxLen ht) (le_bytes8 ht) ?_; intro r3 k3 w3 o3 g3 n3; have HP3 := hid (row_off HP2.out g3 H5.out); have HQ3 := hid (row_off HQ2.out g3 H6.out); have O3 := hid o3; have G3 := hid g3; have N3 := hid n3; clear o3 g3 n3; obtain ⟨s1, s2, s3⟩ := three HP3.out; obtain ⟨s4, s5, s6⟩ := three HQ3.out))
  clear p4 p9 p10 q4 q9 q10
  have pp0 := HP3.out.cell (i := 0) (by omega)
  have pf0 := HP3.out.frozen 0
  have qq0 := HQ3.out.cell (i := 0) (by omega)
  have pp1 := HP3.out.cell (i := 1) (by omega)
  have pf1 := HP3.out.frozen 1
  have qq1 := HQ3.out.cell (i := 1) (by omega)
  have pp2 := HP3.out.cell (i := 2) (by omega)
  have pf2 := HP3.out.frozen 2
  have qq2 := HQ3.out.cell (i := 2) (by omega)
  have pp3 := HP3.out.cell (i := 3) (by omega)
  have pf3 := HP3.out.frozen 3
  have qq3 := HQ3.out.cell (i := 3) (by omega)
  have pp4 := HP3.out.cell (i := 4) (by omega)
  have pf4 := HP3.out.frozen 4
  have qq4 := HQ3.out.cell (i := 4) (by omega)
  have pp5 := HP3.out.cell (i := 5) (by omega)
  have pf5 := HP3.out.frozen 5
  have qq5 := HQ3.out.cell (i := 5) (by omega)
  have pp6 := HP3.out.cell (i := 6) (by omega)
  have pf6 := HP3.out.frozen 6
  have qq6 := HQ3.out.cell (i := 6) (by omega)
  have pp7 := HP3.out.cell (i := 7) (by omega)
  have pf7 := HP3.out.frozen 7
  have qq7 := HQ3.out.cell (i := 7) (by omega)
  have pp8 := HP3.out.cell (i := 8) (by omega)
  have pf8 := HP3.out.frozen 8
  have qq8 := HQ3.out.cell (i := 8) (by omega)
  have pp9 := HP3.out.cell (i := 9) (by omega)
  have pf9 := HP3.out.frozen 9
  have qq9 := HQ3.out.cell (i := 9) (by omega)
  have pp10 := HP3.out.cell (i := 10) (by omega)
  have pf10 := HP3.out.frozen 10
  have qq10 := HQ3.out.cell (i := 10) (by omega)
  simp only [pcell] at pp0 qq0 pp1 qq1 pp2 qq2 pp3 qq3 pp4 qq4 pp5 qq5 pp6 qq6 pp7 qq7 pp8 qq8 pp9 qq9 pp10 qq10
  go_wp2_with fail
  go_end0
  exact copied_end vq aq cq tq kvq kaq kcq ktq HP.out.lt OV.out.lt OC.out.lt OT.out.lt HP3.out O1.out O2.out O3.out G1.out G2.out G3.out N1.out N2.out N3.out D1.out D2.out D3.out H1.out H3.out H5.out
end Go.Proofs.Ybulkdejs
