/-
  THE WALKS of 'zzs5283cbig' (13), 'zzs5283cscalars' (16), 'zzs5283cclone' (24).
-/
import Derived.Test.YbulkdejsCmp
namespace Go.Proofs.Ybulkdejs
open Go.RowKit Go.Deep
set_option linter.unusedVariables false
set_option linter.unusedSimpArgs false

/-- A 'ZzS5283CProc' that came in, and what its slices hold. -/
structure Zp where
  N : Int
  T : Int
  S : Int
  I : Int
  Lo : Int
  He : Int
  Re : Bool
  va : Option Addr
  aa : Option Addr
  ca : Option Addr
  ta : Option Addr
  nv : Nat
  na : Nat
  nc : Nat
  nt : Nat
  kv : Nat
  ka : Nat
  kc : Nat
  kt : Nat
  fV : Nat → Int
  fA : Nat → Int
  fT : Nat → Int
  cL : Nat → Int
  cV : Nat → Int
  cH : Nat → Bool
  cR : Nat → Bool

/-- Its eleven cells. -/
def Zp.cells (z : Zp) : Array Value :=
  #[.int .i64 z.N, .int .i64 z.T, .int .i64 z.S, .int .i64 z.I, .slice z.va z.nv z.kv, .int .i64 z.Lo, .bool z.Re, .int .i64 z.He, .slice z.aa z.na z.ka, .slice z.ca z.nc z.kc, .slice z.ta z.nt z.kt]
def Zp.val (z : Zp) : Value := .agg z.cells

/-- What is known of it. -/
structure Zp.In (w : World) (z : Zp) : Prop where
  v : Ints w z.va z.nv z.fV
  a : Ints w z.aa z.na z.fA
  t : Ints w z.ta z.nt z.fT
  c : Quads w z.ca z.nc z.cL z.cV z.cH z.cR
  v0 : z.va = none → z.nv = 0 ∧ z.kv = 0
  a0 : z.aa = none → z.na = 0 ∧ z.ka = 0
  t0 : z.ta = none → z.nt = 0 ∧ z.kt = 0
  c0 : z.ca = none → z.nc = 0 ∧ z.kc = 0

def Zp.big (z : Zp) : Bool := decide (1024 < z.nv) || decide (1024 < z.na) || decide (1024 < z.nc) || decide (1024 < z.nt)

theorem ret_b {a b : Bool} (h : a = b) : Ending.returned (.bool a) = .returned (.bool b) := by rw [h]

set_option maxHeartbeats 800000 in
set_option maxRecDepth 100000 in
theorem big_any (z : Zp) (w : World) : Calls Yba.prog 13 #[z.val] w fun e w' => e = .returned (.bool z.big) ∧ w' = w.alloc (.cells z.cells 65) := by
  unfold Zp.val Zp.cells
  go_enter Yba.func13, Yba.ntmps13
  go_wp2
  all_goals
    go_ret
    refine ⟨ret_b ?_, rfl⟩
    show _ = (decide (1024 < z.nv) || decide (1024 < z.na) || decide (1024 < z.nc) || decide (1024 < z.nt))
    rw [Bool.eq_iff_iff]
    simp
    omega

/-- The eleven cells of a 'coordProcess'. -/
def pcell (N T S I : Int) (v : Value) (Lo : Int) (Re : Bool) (He : Int) (a c t : Value) : Nat → Value
  | 0 => .int .i64 N
  | 1 => .int .i64 T
  | 2 => .int .i64 S
  | 3 => .int .i64 I
  | 4 => v
  | 5 => .int .i64 Lo
  | 6 => .bool Re
  | 7 => .int .i64 He
  | 8 => a
  | 9 => c
  | _ => t

set_option maxHeartbeats 1600000 in
set_option maxRecDepth 100000 in
theorem scalars_any (bp : Nat) (z : Zp) (v a c t : Value) (w : World) (h : w.rowIs bp 74 11 (pcell z.N z.T z.S z.I v z.Lo z.Re z.He a c t)) :
    Calls Yba.prog 16 #[.pointer (some ⟨bp, 0, none⟩), z.val] w fun e w' => e = .returned (.bool true) ∧ ∃ n, w' = (w.alloc (.cells z.cells 65)).drewN n := by
  have hlt := h.lt
  have c0 : w.cell? ⟨bp, 0, none⟩ = some (.int .i64 z.N) := h.cell (i := 0) (by omega)
  have c1 : w.cell? ⟨bp, 1, none⟩ = some (.int .i64 z.T) := h.cell (i := 1) (by omega)
  have c2 : w.cell? ⟨bp, 2, none⟩ = some (.int .i64 z.S) := h.cell (i := 2) (by omega)
  have c3 : w.cell? ⟨bp, 3, none⟩ = some (.int .i64 z.I) := h.cell (i := 3) (by omega)
  have c5 : w.cell? ⟨bp, 5, none⟩ = some (.int .i64 z.Lo) := h.cell (i := 5) (by omega)
  have c6 : w.cell? ⟨bp, 6, none⟩ = some (.bool z.Re) := h.cell (i := 6) (by omega)
  have c7 : w.cell? ⟨bp, 7, none⟩ = some (.int .i64 z.He) := h.cell (i := 7) (by omega)
  clear h
  unfold Zp.val Zp.cells
  go_enter Yba.func16, Yba.ntmps16
  go_wp2
  go_quiet (fail)
  go_wp2
  go_ret
  exact ⟨rfl, _, rfl⟩

/-! ### clone -/
theorem Yba.info3 : (Yba.prog.info? 3).map (fun i => (i.zero, i.size, i.bytes)) = some (some (.int .i64 0), 1, 8) := by kernel_rfl
def Irow (n : Nat) : Obj := .cells (madeCells #[.int .i64 0] n) 3
theorem run_make_ints (n : Nat) (hn : n ≤ 4096) (w : World) : (Instr.makeSlice 26 (.int .i64 (n : Int)) (.int .i64 (n : Int))).run Yba.prog w = .ok (.slice (some ⟨w.heap.size, 0, none⟩) n n) (w.alloc (Irow n)) :=
  run_make_row' (P := Yba.prog) 26 3 (.int .i64 0) 8 Yba.underlying26 Yba.info3 rfl .i64 .i64 n (by omega) (by omega) w

theorem clone_copy (w : World) (a : Addr) (n c : Nat) (Z : Nat → Int) (hn : n ≤ 1024) (hA : Ints w (some a) n Z) :
    ∃ W', (Builtin.copy_ #[26, 26] 3 #[.slice (some ⟨w.heap.size, 0, none⟩) n n, .slice (some a) n c]).run Yba.prog (w.alloc (Irow n)) = .ok (.int .i64 (n : Int)) W' ∧
      Own W' 3 1 (some ⟨w.heap.size, 0, none⟩) n n (fun j => .int .i64 (Z j)) ∧ Below w.heap.size w W' := by
  have hsz : (Yba.prog.info? 3).map (·.size) = some 1 := by kernel_rfl
  have hg : (w.alloc (Irow n)).heap[w.heap.size]? = some (.cells (madeCells #[.int .i64 0] n) 3 (0, 0)) := blk_alloc_new _ _
  have hbel : Below w.heap.size w (w.alloc (Irow n)) := (Below.refl _ _).alloc (Nat.le_refl _) _
  by_cases h0 : n = 0
  · subst h0
    refine ⟨_, run_copy_none (P := Yba.prog) _ 26 26 3 3 _ _ 0 0 0 c Yba.underlying26 hsz (by simp), ?_, hbel⟩
    exact .inr ⟨_, _, rfl, hg, Nat.le_refl _, by unfold maxLen; omega, by rw [size_madeCells], fun j hj => by omega⟩
  · have hl : ((List.range n).map fun j => Value.int .i64 (Z j)).length = n := by simp
    have hr := run_copy_row (P := Yba.prog) (w.alloc (Irow n)) 26 26 3 3 w.heap.size 0 n n a n c _ 3 ((List.range n).map fun j => Value.int .i64 (Z j)) Yba.underlying26 hsz hg (by rw [hl]; simp [Nat.min_def]) (fun j v hv => by
      have hj : j < n := by have := (List.getElem?_eq_some_iff.1 hv).1; simpa using this
      simp [hj] at hv
      obtain ⟨b, off, e, hb, hc⟩ := hA j hj
      obtain rfl := Option.some.inj e
      rw [Addr.add_lit, World.cell?_alloc_lt _ _ _ (by exact hb), hc, hv]) (by rw [hl, size_madeCells]; omega) (fun v hv => by
      obtain ⟨j, _, rfl⟩ := List.mem_map.1 hv
      rfl)
    rw [hl] at hr
    refine ⟨_, hr, ?_, below_setRow hbel (Nat.le_refl _) _⟩
    have hlist : (madeCells #[.int .i64 0] n).toList.take 0 ++ ((List.range n).map fun j => Value.int .i64 (Z j)) ++ (madeCells #[.int .i64 0] n).toList.drop (0 + n) = (List.range n).map fun j => Value.int .i64 (Z j) := by
      rw [List.drop_of_length_le (by rw [Array.length_toList, size_madeCells]; omega)]
      simp
    rw [hlist]
    refine .inr ⟨_, _, rfl, setRow_heap _ _ _ _ _ _ hg, Nat.le_refl _, by unfold maxLen; omega, by simp, fun j hj => ?_⟩
    have hj' : j < n := by omega
    simp [hj']

set_option maxHeartbeats 800000 in
set_option maxRecDepth 100000 in
theorem clone_any (ao : Option Addr) (n c : Nat) (Z : Nat → Int) (w : World) (hn : n ≤ 1024) (h0 : ao = none → n = 0 ∧ c = 0) (hA : Ints w ao n Z) :
    Calls Yba.prog 24 #[.slice ao n c] w fun e w' => ∃ ro rc, e = .returned (.slice ro n rc) ∧ Own w' 3 1 ro n rc (fun j => .int .i64 (Z j)) ∧ (∀ a, ro = some a → w.heap.size ≤ a.block) ∧ Below w.heap.size w w' := by
  cases ao with
  | none =>
    obtain ⟨rfl, rfl⟩ := h0 rfl
    have hq : ∀ w, (binOp .eql 26 (.slice none 0 0) (.slice none 0 0)).run Yba.prog w = .ok (.bool true) w := fun w => Lib.run_eql_slice_nil w 26 3 none 0 0 0 0 Yba.underlying26
    clear hA h0
    go_enter Yba.func24, Yba.ntmps24
    go_wp2
    go_ret
    exact ⟨none, 0, rfl, .inl ⟨rfl, rfl, rfl⟩, fun a h => (by cases h), Below.refl _ _⟩
  | some a =>
    have hq : ∀ w, (binOp .eql 26 (.slice (some a) n c) (.slice none 0 0)).run Yba.prog w = .ok (.bool false) w := fun w => Lib.run_eql_slice_nil w 26 3 (some a) n c 0 0 Yba.underlying26
    have hmk := run_make_ints n (by omega)
    obtain ⟨W', hcp, hown, hbel⟩ := clone_copy w a n c Z hn hA
    have HO := hid hown
    have HB := hid hbel
    clear hA hown hbel h0
    go_enter Yba.func24, Yba.ntmps24
    go_wp2_with fail
    go_ret
    exact ⟨_, _, rfl, HO.out, fun b hb => by obtain rfl := Option.some.inj hb; exact Nat.le_refl _, HB.out⟩
end Go.Proofs.Ybulkdejs
