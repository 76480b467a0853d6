/-
  THE WALK of 'zzs5283cbuild' (14).
-/
import Derived.Test.YbulkdejsClone
namespace Go.Proofs.Ybulkdejs
open Go.RowKit Go.Deep
set_option linter.unusedVariables false
set_option linter.unusedSimpArgs false

/-- The cells of a 'ZzS5283CProc' by their index. -/
def zcell (z : Zp) : Nat → Value
  | 0 => .int .i64 z.N
  | 1 => .int .i64 z.T
  | 2 => .int .i64 z.S
  | 3 => .int .i64 z.I
  | 4 => .slice z.va z.nv z.kv
  | 5 => .int .i64 z.Lo
  | 6 => .bool z.Re
  | 7 => .int .i64 z.He
  | 8 => .slice z.aa z.na z.ka
  | 9 => .slice z.ca z.nc z.kc
  | _ => .slice z.ta z.nt z.kt

theorem zcell_row (w : World) (z : Zp) : (w.alloc (.cells z.cells 65)).rowIs w.heap.size 65 11 (zcell z) :=
  World.rowIs_alloc w z.cells 65 (zcell z) (fun i hi => by
    match i, hi with
    | 0, _ => rfl
    | 1, _ => rfl
    | 2, _ => rfl
    | 3, _ => rfl
    | 4, _ => rfl
    | 5, _ => rfl
    | 6, _ => rfl
    | 7, _ => rfl
    | 8, _ => rfl
    | 9, _ => rfl
    | 10, _ => rfl)

theorem Yba.info77 : (Yba.prog.info? 77).map (fun i => (i.zero, i.size, i.bytes)) = some (some (.agg #[.int .i64 0, .int .i64 0, .bool false, .bool false]), 4, 24) := by kernel_rfl
/-- The block that 'make([]coordCopy, n)' lays. -/
def Crow (n : Nat) : Obj := .cells (madeCells #[.int .i64 0, .int .i64 0, .bool false, .bool false] (n * 4)) 77
theorem run_make_copies (n : Nat) (hn : n ≤ 1024) (w : World) : (Instr.makeSlice 72 (.int .i64 (n : Int)) (.int .i64 (n : Int))).run Yba.prog w = .ok (.slice (some ⟨w.heap.size, 0, none⟩) n n) (w.alloc (Crow n)) := by
  obtain ⟨i, hi, hz0, hz1, hz2⟩ := info_parts Yba.info77
  have hr := run_make (P := Yba.prog) w 72 77 i _ Yba.underlying72 hi hz0 .i64 .i64 (n : Int) (n : Int) (by omega) (by omega) (by rw [hz2]; omega) (by omega)
  simp only [Int.toNat_natCast, hz1] at hr
  exact hr

/-- The eleven cells of the new process. -/
def pnew (z : Zp) : Array Value :=
  #[.int .i64 z.N, .int .i64 z.T, .int .i64 z.S, .int .i64 z.I, .slice none 0 0, .int .i64 z.Lo, .bool z.Re, .int .i64 z.He, .slice none 0 0, .slice none 0 0, .slice none 0 0]

theorem pnew_row (w : World) (z : Zp) : (w.alloc (.cells (pnew z) 74)).rowIs w.heap.size 74 11 (pcell z.N z.T z.S z.I (.slice none 0 0) z.Lo z.Re z.He (.slice none 0 0) (.slice none 0 0) (.slice none 0 0)) :=
  World.rowIs_alloc w (pnew z) 74 _ (fun i hi => by
    match i, hi with
    | 0, _ => rfl
    | 1, _ => rfl
    | 2, _ => rfl
    | 3, _ => rfl
    | 4, _ => rfl
    | 5, _ => rfl
    | 6, _ => rfl
    | 7, _ => rfl
    | 8, _ => rfl
    | 9, _ => rfl
    | 10, _ => rfl)

section
variable {N T S I Lo He : Int} {Re : Bool} {v a c t : Value} {w : World} {b : Nat}
theorem head4 (h : w.rowIs b 74 11 (pcell N T S I v Lo Re He a c t)) (x : Value) : (w.setCell ⟨b, 4, none⟩ x).rowIs b 74 11 (pcell N T S I x Lo Re He a c t) := by
  refine (h.set 4 x).congr fun i hi => ?_
  match i, hi with
  | 0, _ => rfl
  | 1, _ => rfl
  | 2, _ => rfl
  | 3, _ => rfl
  | 4, _ => rfl
  | 5, _ => rfl
  | 6, _ => rfl
  | 7, _ => rfl
  | 8, _ => rfl
  | 9, _ => rfl
  | 10, _ => rfl
theorem head8 (h : w.rowIs b 74 11 (pcell N T S I v Lo Re He a c t)) (x : Value) : (w.setCell ⟨b, 8, none⟩ x).rowIs b 74 11 (pcell N T S I v Lo Re He x c t) := by
  refine (h.set 8 x).congr fun i hi => ?_
  match i, hi with
  | 0, _ => rfl
  | 1, _ => rfl
  | 2, _ => rfl
  | 3, _ => rfl
  | 4, _ => rfl
  | 5, _ => rfl
  | 6, _ => rfl
  | 7, _ => rfl
  | 8, _ => rfl
  | 9, _ => rfl
  | 10, _ => rfl
theorem head9 (h : w.rowIs b 74 11 (pcell N T S I v Lo Re He a c t)) (x : Value) : (w.setCell ⟨b, 9, none⟩ x).rowIs b 74 11 (pcell N T S I v Lo Re He a x t) := by
  refine (h.set 9 x).congr fun i hi => ?_
  match i, hi with
  | 0, _ => rfl
  | 1, _ => rfl
  | 2, _ => rfl
  | 3, _ => rfl
  | 4, _ => rfl
  | 5, _ => rfl
  | 6, _ => rfl
  | 7, _ => rfl
  | 8, _ => rfl
  | 9, _ => rfl
  | 10, _ => rfl
theorem head10 (h : w.rowIs b 74 11 (pcell N T S I v Lo Re He a c t)) (x : Value) : (w.setCell ⟨b, 10, none⟩ x).rowIs b 74 11 (pcell N T S I v Lo Re He a c x) := by
  refine (h.set 10 x).congr fun i hi => ?_
  match i, hi with
  | 0, _ => rfl
  | 1, _ => rfl
  | 2, _ => rfl
  | 3, _ => rfl
  | 4, _ => rfl
  | 5, _ => rfl
  | 6, _ => rfl
  | 7, _ => rfl
  | 8, _ => rfl
  | 9, _ => rfl
  | 10, _ => rfl
end

def fI (Z : Nat → Int) : Nat → Value := fun j => .int .i64 (Z j)

/-- While the process is built: the box of z, the process, the three rows of ints. -/
structure Stage (w : World) (z : Zp) (v a t : Option Addr) (nv kv na ka nt kt : Nat) (wk : World) : Prop where
  box : wk.rowIs w.heap.size 65 11 (zcell z)
  head : wk.rowIs (w.heap.size + 1) 74 11 (pcell z.N z.T z.S z.I (.slice v nv kv) z.Lo z.Re z.He (.slice a na ka) (.slice none 0 0) (.slice t nt kt))
  rv : Own wk 3 1 v nv kv (fI z.fV)
  ra : Own wk 3 1 a na ka (fI z.fA)
  rt : Own wk 3 1 t nt kt (fI z.fT)
  bel : Below w.heap.size w wk
  fv : ∀ x, v = some x → w.heap.size + 1 < x.block
  fa : ∀ x, a = some x → w.heap.size + 1 < x.block
  ft : ∀ x, t = some x → w.heap.size + 1 < x.block
  va : Apart v a
  vt : Apart v t
  at_ : Apart a t

theorem none_no {p : Addr → Prop} : ∀ x, (none : Option Addr) = some x → p x := fun x h => by cases h
theorem apart_none (x : Option Addr) : Apart none x := fun a b ha => by cases ha
theorem apart_new {x y : Option Addr} {k : Nat} (h : ∀ a, x = some a → a.block < k) (h' : ∀ a, y = some a → k ≤ a.block) : Apart x y := fun a b ha hb e => by
  have := h a ha
  have := h' b hb
  omega

theorem stage_start (w : World) (z : Zp) : Stage w z none none none 0 0 0 0 0 0 ((w.alloc (.cells z.cells 65)).alloc (.cells (pnew z) 74)) := by
  refine ⟨(zcell_row w z).alloc _, by simpa using pnew_row (w.alloc (.cells z.cells 65)) z, .inl ⟨rfl, rfl, rfl⟩, .inl ⟨rfl, rfl, rfl⟩, .inl ⟨rfl, rfl, rfl⟩,
    ((Below.refl _ _).alloc (Nat.le_refl _) _).alloc (by simp) _, none_no, none_no, none_no, apart_none _, apart_none _, apart_none _⟩

theorem stage_v {w wk w1 : World} {z : Zp} {ro : Option Addr} {rc : Nat} (h : Stage w z none none none 0 0 0 0 0 0 wk) (ho : Own w1 3 1 ro z.nv rc (fI z.fV)) (hf : ∀ a, ro = some a → wk.heap.size ≤ a.block) (hb : Below wk.heap.size wk w1) :
    Stage w z ro none none z.nv rc 0 0 0 0 (w1.setCell ⟨w.heap.size + 1, 4, none⟩ (.slice ro z.nv rc)) := by
  have hl := h.head.lt
  have hl0 := h.box.lt
  refine ⟨(h.box.of_block (hb.block _ hl0)).setOther (by show w.heap.size ≠ w.heap.size + 1; omega) _, head4 (h.head.of_block (hb.block _ hl)) _, ho.setCell (p := ⟨w.heap.size + 1, 4, none⟩) (fun x hx => by have := hf x hx; show x.block ≠ w.heap.size + 1; omega) _, .inl ⟨rfl, rfl, rfl⟩, .inl ⟨rfl, rfl, rfl⟩,
    (h.bel.trans (hb.mono (by omega))).setCell (p := ⟨w.heap.size + 1, 4, none⟩) (by show w.heap.size ≤ w.heap.size + 1; omega) _, fun x hx => by have := hf x hx; omega, none_no, none_no, (apart_none _).symm, (apart_none _).symm, apart_none _⟩

theorem stage_a {w wk w1 : World} {z : Zp} {v ro : Option Addr} {nv kv rc : Nat} (h : Stage w z v none none nv kv 0 0 0 0 wk) (ho : Own w1 3 1 ro z.na rc (fI z.fA)) (hf : ∀ a, ro = some a → wk.heap.size ≤ a.block) (hb : Below wk.heap.size wk w1) :
    Stage w z v ro none nv kv z.na rc 0 0 (w1.setCell ⟨w.heap.size + 1, 8, none⟩ (.slice ro z.na rc)) := by
  have hl := h.head.lt
  have hl0 := h.box.lt
  refine ⟨(h.box.of_block (hb.block _ hl0)).setOther (by show w.heap.size ≠ w.heap.size + 1; omega) _, head8 (h.head.of_block (hb.block _ hl)) _,
    (h.rv.below' hb).setCell (p := ⟨w.heap.size + 1, 8, none⟩) (fun x hx => by have := h.fv x hx; show x.block ≠ w.heap.size + 1; omega) _, ho.setCell (p := ⟨w.heap.size + 1, 8, none⟩) (fun x hx => by have := hf x hx; show x.block ≠ w.heap.size + 1; omega) _, .inl ⟨rfl, rfl, rfl⟩,
    (h.bel.trans (hb.mono (by omega))).setCell (p := ⟨w.heap.size + 1, 8, none⟩) (by show w.heap.size ≤ w.heap.size + 1; omega) _, h.fv, fun x hx => by have := hf x hx; omega, none_no, apart_new h.rv.lt hf, (apart_none _).symm, (apart_none _).symm⟩

theorem stage_t {w wk w1 : World} {z : Zp} {v a ro : Option Addr} {nv kv na ka rc : Nat} (h : Stage w z v a none nv kv na ka 0 0 wk) (ho : Own w1 3 1 ro z.nt rc (fI z.fT)) (hf : ∀ a, ro = some a → wk.heap.size ≤ a.block) (hb : Below wk.heap.size wk w1) :
    Stage w z v a ro nv kv na ka z.nt rc (w1.setCell ⟨w.heap.size + 1, 10, none⟩ (.slice ro z.nt rc)) := by
  have hl := h.head.lt
  have hl0 := h.box.lt
  refine ⟨(h.box.of_block (hb.block _ hl0)).setOther (by show w.heap.size ≠ w.heap.size + 1; omega) _, head10 (h.head.of_block (hb.block _ hl)) _,
    (h.rv.below' hb).setCell (p := ⟨w.heap.size + 1, 10, none⟩) (fun x hx => by have := h.fv x hx; show x.block ≠ w.heap.size + 1; omega) _, (h.ra.below' hb).setCell (p := ⟨w.heap.size + 1, 10, none⟩) (fun x hx => by have := h.fa x hx; show x.block ≠ w.heap.size + 1; omega) _,
    ho.setCell (p := ⟨w.heap.size + 1, 10, none⟩) (fun x hx => by have := hf x hx; show x.block ≠ w.heap.size + 1; omega) _,
    (h.bel.trans (hb.mono (by omega))).setCell (p := ⟨w.heap.size + 1, 10, none⟩) (by show w.heap.size ≤ w.heap.size + 1; omega) _, h.fv, h.fa, fun x hx => by have := hf x hx; omega, h.va, apart_new h.rv.lt hf, apart_new h.ra.lt hf⟩

/-- THE PROCESS AS IT IS BUILT. -/
structure Proc (w : World) (bp : Nat) (z : Zp) (v a c t : Option Addr) (kv ka kc kt : Nat) : Prop where
  head : w.rowIs bp 74 11 (pcell z.N z.T z.S z.I (.slice v z.nv kv) z.Lo z.Re z.He (.slice a z.na ka) (.slice c z.nc kc) (.slice t z.nt kt))
  rv : Own w 3 1 v z.nv kv (fI z.fV)
  ra : Own w 3 1 a z.na ka (fI z.fA)
  rc : Own w 77 4 c z.nc kc (quadF z.cL z.cV z.cH z.cR)
  rt : Own w 3 1 t z.nt kt (fI z.fT)
  fv : ∀ x, v = some x → bp < x.block
  fa : ∀ x, a = some x → bp < x.block
  fc : ∀ x, c = some x → bp < x.block
  ft : ∀ x, t = some x → bp < x.block
  va : Apart v a
  vc : Apart v c
  vt : Apart v t
  ac : Apart a c
  at_ : Apart a t
  ct : Apart c t

/-- What 'zzs5283cbuild' leaves. -/
def Built (w : World) (z : Zp) (e : Ending) (w' : World) : Prop :=
  ∃ v a c t kv ka kc kt, e = .returned (.pointer (some ⟨w.heap.size + 1, 0, none⟩)) ∧ Proc w' (w.heap.size + 1) z v a c t kv ka kc kt ∧ Below w.heap.size w w'

/-- No copies. -/
theorem built_none {w wk : World} {z : Zp} {v a t : Option Addr} {kv ka kt : Nat} (h : Stage w z v a t z.nv kv z.na ka z.nt kt wk) (h0 : z.nc = 0) : Built w z (.returned (.pointer (some ⟨w.heap.size + 1, 0, none⟩))) wk := by
  refine ⟨v, a, none, t, kv, ka, 0, kt, rfl, ⟨?_, h.rv, h.ra, .inl ⟨rfl, h0, rfl⟩, h.rt, h.fv, h.fa, none_no, h.ft, h.va, (apart_none _).symm, h.vt, (apart_none _).symm, h.at_, apart_none _⟩, h.bel⟩
  rw [h0]
  exact h.head

/-- What the cells of the row of copies hold when k have been laid. -/
def quadTo (z : Zp) (k j : Nat) : Value := if j < k * 4 then quadF z.cL z.cV z.cH z.cR j else if j % 4 = 0 ∨ j % 4 = 1 then .int .i64 0 else .bool false

theorem quadTo_start (w : World) (z : Zp) (n : Nat) : (w.alloc (Crow n)).rowIs w.heap.size 77 (n * 4) (quadTo z 0) := by
  refine ⟨_, blk_alloc_new _ _, size_madeCells _ _, fun i hi => ?_⟩
  have : i % 4 = 0 ∨ i % 4 = 1 ∨ i % 4 = 2 ∨ i % 4 = 3 := by omega
  rcases this with h | h | h | h <;> simp [madeCells, hi, quadTo, h]

theorem quadTo_step {w : World} {b n k : Nat} {z : Zp} (h : w.rowIs b 77 (n * 4) (quadTo z k)) :
    ((((w.setCell ⟨b, k * 4, none⟩ (.int .i64 (z.cL k))).setCell ⟨b, k * 4 + 1, none⟩ (.int .i64 (z.cV k))).setCell ⟨b, k * 4 + 2, none⟩ (.bool (z.cH k))).setCell ⟨b, k * 4 + 3, none⟩ (.bool (z.cR k))).rowIs b 77 (n * 4) (quadTo z (k + 1)) := by
  refine ((((h.set (k * 4) _).set (k * 4 + 1) _).set (k * 4 + 2) _).set (k * 4 + 3) _).congr fun c hc => ?_
  unfold quadTo
  by_cases h3 : c = k * 4 + 3
  · subst h3; rw [if_pos rfl, if_pos (by omega), quadF3]
  rw [if_neg h3]
  by_cases h2 : c = k * 4 + 2
  · subst h2; rw [if_pos rfl, if_pos (by omega), quadF2]
  rw [if_neg h2]
  by_cases h1 : c = k * 4 + 1
  · subst h1; rw [if_pos rfl, if_pos (by omega), quadF1]
  rw [if_neg h1]
  by_cases h0 : c = k * 4
  · subst h0; rw [if_pos rfl, if_pos (by omega), quadF0]
  rw [if_neg h0]
  by_cases hk : c < k * 4
  · have h4 : c < (k + 1) * 4 := by omega
    simp only [hk, h4, if_true]
  · have h4 : ¬ c < (k + 1) * 4 := by omega
    simp only [hk, h4, if_false]

/-- While the copies are laid. -/
structure CopyAt (w : World) (z : Zp) (v a t : Option Addr) (kv ka kt g k : Nat) (wr : World) : Prop where
  box : wr.rowIs w.heap.size 65 11 (zcell z)
  head : wr.rowIs (w.heap.size + 1) 74 11 (pcell z.N z.T z.S z.I (.slice v z.nv kv) z.Lo z.Re z.He (.slice a z.na ka) (.slice (some ⟨g, 0, none⟩) z.nc z.nc) (.slice t z.nt kt))
  rv : Own wr 3 1 v z.nv kv (fI z.fV)
  ra : Own wr 3 1 a z.na ka (fI z.fA)
  rt : Own wr 3 1 t z.nt kt (fI z.fT)
  row : wr.rowIs g 77 (z.nc * 4) (quadTo z k)
  bel : Below w.heap.size w wr
  lg : w.heap.size + 1 < g
  fv : ∀ x, v = some x → w.heap.size + 1 < x.block
  fa : ∀ x, a = some x → w.heap.size + 1 < x.block
  ft : ∀ x, t = some x → w.heap.size + 1 < x.block
  va : Apart v a
  vt : Apart v t
  at_ : Apart a t
  gv : ∀ x, v = some x → x.block < g
  ga : ∀ x, a = some x → x.block < g
  gt : ∀ x, t = some x → x.block < g

theorem copyAt_start {w wk : World} {z : Zp} {v a t : Option Addr} {kv ka kt : Nat} (h : Stage w z v a t z.nv kv z.na ka z.nt kt wk) :
    CopyAt w z v a t kv ka kt wk.heap.size 0 ((wk.setCell ⟨w.heap.size + 1, 9, none⟩ (.slice (some ⟨wk.heap.size, 0, none⟩) z.nc z.nc)).alloc (Crow z.nc)) := by
  have hl := h.head.lt
  have hrow := quadTo_start (wk.setCell ⟨w.heap.size + 1, 9, none⟩ (.slice (some ⟨wk.heap.size, 0, none⟩) z.nc z.nc)) z z.nc
  have hs : (wk.setCell ⟨w.heap.size + 1, 9, none⟩ (.slice (some ⟨wk.heap.size, 0, none⟩) z.nc z.nc)).heap.size = wk.heap.size := by simp
  rw [hs] at hrow
  refine ⟨(h.box.setOther (by show w.heap.size ≠ w.heap.size + 1; omega) _).alloc _, (head9 h.head _).alloc _,
    (h.rv.setCell (p := ⟨w.heap.size + 1, 9, none⟩) (fun x hx => by have := h.fv x hx; show x.block ≠ w.heap.size + 1; omega) _).alloc _, (h.ra.setCell (p := ⟨w.heap.size + 1, 9, none⟩) (fun x hx => by have := h.fa x hx; show x.block ≠ w.heap.size + 1; omega) _).alloc _,
    (h.rt.setCell (p := ⟨w.heap.size + 1, 9, none⟩) (fun x hx => by have := h.ft x hx; show x.block ≠ w.heap.size + 1; omega) _).alloc _, hrow,
    (h.bel.setCell (p := ⟨w.heap.size + 1, 9, none⟩) (by show w.heap.size ≤ w.heap.size + 1; omega) _).alloc (by rw [hs]; omega) _, by omega, h.fv, h.fa, h.ft, h.va, h.vt, h.at_, h.rv.lt, h.ra.lt, h.rt.lt⟩

/-- Whatever leaves all below g alone, and the row as it is said. -/
theorem CopyAt.next {w wr w' : World} {z : Zp} {v a t : Option Addr} {kv ka kt g k k' : Nat} (h : CopyAt w z v a t kv ka kt g k wr) (hb : Below g wr w') (hr : w'.rowIs g 77 (z.nc * 4) (quadTo z k')) : CopyAt w z v a t kv ka kt g k' w' := by
  have hg := h.lg
  exact ⟨h.box.of_block (hb.block _ (by omega)), h.head.of_block (hb.block _ (by omega)), h.rv.below hb h.gv, h.ra.below hb h.ga, h.rt.below hb h.gt, hr, h.bel.trans (hb.mono (by omega)), hg, h.fv, h.fa, h.ft, h.va, h.vt, h.at_, h.gv, h.ga, h.gt⟩

theorem copyAt_end {w wr : World} {z : Zp} {v a t : Option Addr} {kv ka kt g : Nat} (hc : z.nc ≤ 1024) (h : CopyAt w z v a t kv ka kt g z.nc wr) : Built w z (.returned (.pointer (some ⟨w.heap.size + 1, 0, none⟩))) wr := by
  have hg := h.lg
  obtain ⟨cur, hcur, hcs, hci⟩ := h.row
  refine ⟨v, a, some ⟨g, 0, none⟩, t, kv, ka, z.nc, kt, rfl, ⟨h.head, h.rv, h.ra, .inr ⟨g, cur, rfl, hcur, Nat.le_refl _, by unfold maxLen; omega, hcs, fun j hj => ?_⟩, h.rt, h.fv, h.fa, fun x hx => ?_, h.ft, h.va, ?_, h.vt, ?_, h.at_, ?_⟩, h.bel⟩
  · rw [hci j hj]
    unfold quadTo
    rw [if_pos hj]
  · obtain rfl := Option.some.inj hx; exact hg
  · exact fun x y hx hy e => by obtain rfl := Option.some.inj hy; have := h.gv x hx; simp at e; omega
  · exact fun x y hx hy e => by obtain rfl := Option.some.inj hy; have := h.ga x hx; simp at e; omega
  · exact fun x y hx hy e => by obtain rfl := Option.some.inj hx; have := h.gt y hy; simp at e; omega

set_option maxHeartbeats 1600000 in
set_option maxRecDepth 100000 in
theorem build_any (z : Zp) (w : World) (hz : z.In w) (hv : z.nv ≤ 1024) (ha : z.na ≤ 1024) (hc : z.nc ≤ 1024) (ht : z.nt ≤ 1024) :
    Calls Yba.prog 14 #[z.val] w (Built w z) := by
  have HZ := hid hz
  clear hz
  have S0 := stage_start w z
  unfold Zp.val
  unfold Zp.cells pnew at *
  have HS0 := hid S0
  clear S0
  go_enter Yba.func14, Yba.ntmps14
  go_wp2_with fail
  refine (clone_any z.va z.nv z.kv z.fV _ hv HZ.out.v0 (HZ.out.v.later HS0.out.bel)).mono ?_
  rintro e w1 ⟨r1, k1, rfl, o1, f1, b1⟩
  have S1 := stage_v HS0.out o1 f1 b1
  have g1 : w1.cell? ⟨w.heap.size + 1, 4, none⟩ = some (.slice none 0 0) := (HS0.out.head.of_block (b1.block _ HS0.out.head.lt)).cell (i := 4) (by omega)
  have q1 : w1.frozen? ⟨w.heap.size + 1, 4, none⟩ = false := (HS0.out.head.of_block (b1.block _ HS0.out.head.lt)).frozen 4
  have x1 : w1.cell? ⟨w.heap.size, 8, none⟩ = some (.slice z.aa z.na z.ka) := (HS0.out.box.of_block (b1.block _ HS0.out.box.lt)).cell (i := 8) (by omega)
  have HS1 := hid S1
  clear S1 HS0 o1 f1 b1
  go_wp2_with fail
  refine (clone_any z.aa z.na z.ka z.fA _ ha HZ.out.a0 (HZ.out.a.later HS1.out.bel)).mono ?_
  rintro e w2 ⟨r2, k2, rfl, o2, f2, b2⟩
  have S2 := stage_a HS1.out o2 f2 b2
  have g2 : w2.cell? ⟨w.heap.size + 1, 8, none⟩ = some (.slice none 0 0) := (HS1.out.head.of_block (b2.block _ HS1.out.head.lt)).cell (i := 8) (by omega)
  have q2 : w2.frozen? ⟨w.heap.size + 1, 8, none⟩ = false := (HS1.out.head.of_block (b2.block _ HS1.out.head.lt)).frozen 8
  have x2 : w2.cell? ⟨w.heap.size, 10, none⟩ = some (.slice z.ta z.nt z.kt) := (HS1.out.box.of_block (b2.block _ HS1.out.box.lt)).cell (i := 10) (by omega)
  have HS2 := hid S2
  clear S2 HS1 o2 f2 b2 g1 q1 x1
  go_wp2_with fail
  refine (clone_any z.ta z.nt z.kt z.fT _ ht HZ.out.t0 (HZ.out.t.later HS2.out.bel)).mono ?_
  rintro e w3 ⟨r3, k3, rfl, o3, f3, b3⟩
  have S3 := stage_t HS2.out o3 f3 b3
  have g3 : w3.cell? ⟨w.heap.size + 1, 10, none⟩ = some (.slice none 0 0) := (HS2.out.head.of_block (b3.block _ HS2.out.head.lt)).cell (i := 10) (by omega)
  have q3 : w3.frozen? ⟨w.heap.size + 1, 10, none⟩ = false := (HS2.out.head.of_block (b3.block _ HS2.out.head.lt)).frozen 10
  have x3 : w3.cell? ⟨w.heap.size, 9, none⟩ = some (.slice z.ca z.nc z.kc) := (HS2.out.box.of_block (b3.block _ HS2.out.box.lt)).cell (i := 9) (by omega)
  have g9 : w3.cell? ⟨w.heap.size + 1, 9, none⟩ = some (.slice none 0 0) := (HS2.out.head.of_block (b3.block _ HS2.out.head.lt)).cell (i := 9) (by omega)
  have q9 : w3.frozen? ⟨w.heap.size + 1, 9, none⟩ = false := (HS2.out.head.of_block (b3.block _ HS2.out.head.lt)).frozen 9
  have hl3 : w.heap.size + 1 < w3.heap.size := (HS2.out.head.of_block (b3.block _ HS2.out.head.lt)).lt
  have HS3 := hid S3
  clear S3 HS2 o3 f3 b3 g2 q2 x2
  by_cases hca : z.ca = none
  · have hq : ∀ w, (binOp .neq 63 (.slice z.ca z.nc z.kc) (.slice none 0 0)).run Yba.prog w = .ok (.bool false) w := fun w => by have := run_neq_slice_nil_any (P := Yba.prog) w 63 79 z.ca z.nc z.kc 0 0 Yba.underlying63; rw [hca] at this ⊢; exact this
    have HC := hid (HZ.out.c0 hca).1
    clear hca
    go_wp2_with fail
    go_ret
    exact built_none HS3.out HC.out
  · have hq : ∀ w, (binOp .neq 63 (.slice z.ca z.nc z.kc) (.slice none 0 0)).run Yba.prog w = .ok (.bool true) w := fun w => by
      have := run_neq_slice_nil_any (P := Yba.prog) w 63 79 z.ca z.nc z.kc 0 0 Yba.underlying63
      rw [this]
      cases h : z.ca with
      | none => exact absurd h hca
      | some a => rfl
    have hmk := run_make_copies z.nc hc
    clear hca
    go_wp2_with fail
    have hs3 : (w3.setCell ⟨w.heap.size + 1, 10, none⟩ (.slice r3 z.nt k3)).heap.size = w3.heap.size := by simp
    have C0 := copyAt_start HS3.out
    rw [hs3] at C0
    have HC0 := hid C0
    clear C0 hs3 hmk hq g3 q3 x3 g9 q9
    go_loopw [4] (fun si wr => ∃ k : Nat, k ≤ z.nc ∧ si = .int .i64 k ∧ CopyAt w z r1 r2 r3 k1 k2 k3 w3.heap.size k wr) (fun si _ => z.nc - (intOf si).toNat)
    case atStart => exact ⟨0, Nat.zero_le _, rfl, HC0.out⟩
    case round =>
      obtain ⟨k, hk, rfl, hat⟩ := hrel
      have x9 : wr.cell? ⟨w.heap.size, 9, none⟩ = some (.slice z.ca z.nc z.kc) := hat.box.cell (i := 9) (by omega)
      have h9 : wr.cell? ⟨w.heap.size + 1, 9, none⟩ = some (.slice (some ⟨w3.heap.size, 0, none⟩) z.nc z.nc) := hat.head.cell (i := 9) (by omega)
      have HA := hid hat
      clear hat
      by_cases hlt : k < z.nc
      · obtain ⟨b, off, ec, hb, c0, c1, c2, c3⟩ := HZ.out.c k hlt
        rw [ec] at x9
        have hc0 : wr.cell? ⟨b, off + k * 4, none⟩ = some (.int .i64 (z.cL k)) := (HA.out.bel.cell (by exact hb)).trans c0
        have hc1 : wr.cell? ⟨b, off + k * 4 + 1, none⟩ = some (.int .i64 (z.cV k)) := (HA.out.bel.cell (by exact hb)).trans c1
        have hc2 : wr.cell? ⟨b, off + k * 4 + 2, none⟩ = some (.bool (z.cH k)) := (HA.out.bel.cell (by exact hb)).trans c2
        have hc3 : wr.cell? ⟨b, off + k * 4 + 3, none⟩ = some (.bool (z.cR k)) := (HA.out.bel.cell (by exact hb)).trans c3
        have e0 := HA.out.row.cell (i := k * 4) (by omega)
        have e1 := HA.out.row.cell (i := k * 4 + 1) (by omega)
        have e2 := HA.out.row.cell (i := k * 4 + 2) (by omega)
        have e3 := HA.out.row.cell (i := k * 4 + 3) (by omega)
        have f0 := HA.out.row.frozen (k * 4)
        have f1 := HA.out.row.frozen (k * 4 + 1)
        have f2 := HA.out.row.frozen (k * 4 + 2)
        have f3 := HA.out.row.frozen (k * 4 + 3)
        have hl1 : w.heap.size + 1 < wr.heap.size := HA.out.head.lt
        have hl2 : w3.heap.size < wr.heap.size := HA.out.row.lt
        have EC := hid ec
        clear ec c0 c1 c2 c3
        go_wp2_with fail
        go_region
        all_goals go_wp2_with fail
        all_goals go_roundw
        case rel =>
          refine ⟨k + 1, by omega, by go_num, HA.out.next ?_ ((quadTo_step HA.out.row).alloc _).drew⟩
          exact (((((((Below.refl w3.heap.size wr).setCell (p := ⟨w3.heap.size, k * 4, none⟩) (Nat.le_refl _) _).setCell (p := ⟨w3.heap.size, k * 4 + 1, none⟩) (Nat.le_refl _) _).setCell (p := ⟨w3.heap.size, k * 4 + 2, none⟩) (Nat.le_refl _) _).setCell (p := ⟨w3.heap.size, k * 4 + 3, none⟩) (Nat.le_refl _) _)).alloc (by simp; omega) _).drew
        case measure => simp [intOf]; omega
      · obtain rfl : k = z.nc := by omega
        go_wp2_with fail
        go_ret
        exact copyAt_end hc HA.out
end Go.Proofs.Ybulkdejs
