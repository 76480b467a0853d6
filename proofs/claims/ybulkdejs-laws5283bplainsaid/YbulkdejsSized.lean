/-
  THE WALKS of slices.Grow at five element types, and of 'sized' at three.
-/
import Derived.Test.YbulkdejsGrow
namespace Go.Proofs.Ybulkdejs
open Go.RowKit Go.Deep
set_option linter.unusedVariables false
set_option linter.unusedSimpArgs false

/-- What slices.Grow(s[:0], n) leaves, s = '.slice ao 0 cap' over the cells f. -/
def Grown1 (e size : Nat) (zs : Array Value) (ao : Option Addr) (cap n : Nat) (f : Nat → Value) (w : World) (en : Ending) (w' : World) : Prop :=
  ∃ ro rc, en = .returned (.slice ro 0 rc) ∧ n ≤ rc ∧ rc ≤ 9223372036854775807 ∧ Own w' e size ro rc rc (ext size zs (cap * size) f) ∧ w.grownBy w' none ∧ (ro = ao ∨ ∃ g, ro = some ⟨g, 0, none⟩ ∧ w.heap.size ≤ g)

theorem grown_room {e size : Nat} {zs : Array Value} {ao : Option Addr} {cap n : Nat} {f : Nat → Value} {w : World} (h : Own w e size ao cap cap f) (hn : n ≤ cap) (hc : cap ≤ 9223372036854775807) : Grown1 e size zs ao cap n f w (.returned (.slice ao 0 cap)) w :=
  ⟨ao, cap, rfl, hn, hc, h.congr fun j hj => by unfold ext; rw [if_pos hj], World.grownBy.refl _ _, .inl rfl⟩

/-- What 'sized(s, n)' leaves, s = '.slice ao m cap'. -/
def Sized1 (e size : Nat) (zs : Array Value) (ao : Option Addr) (n : Nat) (w : World) (en : Ending) (w' : World) : Prop :=
  ∃ ro rc, en = .returned (.slice ro n rc) ∧ Own w' e size ro n rc (zf size zs) ∧ w.grownBy w' (blk ao) ∧ (ro = ao ∨ ∃ g, ro = some ⟨g, 0, none⟩ ∧ w.heap.size ≤ g)

/-- Grow, then clear. -/
theorem sized_end {e size : Nat} {zs : Array Value} {ao ro : Option Addr} {n rc : Nat} {w w1 w2 : World} (g1 : w.grownBy w1 none) (o2 : Own w2 e size ro n rc (zf size zs)) (g2 : w1.grownBy w2 (blk ro)) (hn : ro = ao ∨ ∃ g, ro = some ⟨g, 0, none⟩ ∧ w.heap.size ≤ g) :
    Sized1 e size zs ao n w (.returned (.slice ro n rc)) w2 := by
  refine ⟨ro, rc, rfl, o2, ⟨g2.os.trans g1.os, g2.tape.trans g1.tape, g2.output.trans g1.output, Nat.le_trans g1.size g2.size, fun k hk hne => ?_⟩, hn⟩
  have h1 := g1.block k hk (by simp)
  rw [← h1]
  refine g2.block k (Nat.lt_of_lt_of_le hk g1.size) fun e => ?_
  rcases hn with rfl | ⟨g, rfl, hg⟩
  · exact hne e
  · simp [blk] at e
    omega

theorem Yba.info3g : (Yba.prog.info? 3).map (fun i => (i.zero, i.size, i.bytes)) = some (some (.int .i64 0), 1, 8) := by kernel_rfl
/-- The zero cells of this element type. -/
def zInt : Array Value := (Value.cells (.int .i64 0))
theorem zInt_size : zInt.size = 1 := by rfl
theorem zInt_one : ∀ v ∈ zInt.toList, v.oneCell' = true := by
  intro v hv
  simp [zInt, Value.cells] at hv
  try rcases hv with h | h | h | h | h | h
  all_goals (subst_vars; rfl)

set_option maxHeartbeats 800000 in
set_option maxRecDepth 100000 in
theorem growInt_any (ao : Option Addr) (cap n : Nat) (f : Nat → Value) (w : World) (hn : n ≤ 2000) (hc : cap ≤ 9223372036854775807) (h : Own w 3 1 ao cap cap f) :
    Calls Yba.prog 26 #[.slice ao 0 cap, .int .i64 n] w (Grown1 3 1 zInt ao cap n f w) := by
  by_cases hroom : n ≤ cap
  · have HR := Hid.out (p := Grown1 3 1 zInt ao cap n f w (.returned (.slice ao 0 cap)) w) (grown_room h hroom hc)
    have HG : Hid (Grown1 3 1 zInt ao cap n f w (.returned (.slice ao 0 cap)) w) := HR
    clear HR h
    go_enter Yba.func26, Yba.ntmps26
    go_wp2
    go_ret
    exact HG.out
  · obtain ⟨i, hi, hz0, hz1, hz2⟩ := info_parts Yba.info3g
    obtain ⟨rc, w', hrun, h1, h2, h3, h4⟩ := run_grow (P := Yba.prog) (t := 26) (ty := 26) w Yba.underlying26 Yba.underlying3 hi hz0 hz1 hz2 rfl (by omega) h (by omega) hn (by omega)
    have HG : Hid (Grown1 3 1 zInt ao cap n f w (.returned (.slice (some ⟨w.heap.size, 0, none⟩) 0 rc)) w') := ⟨_, rc, rfl, h1, h2, h3, h4, .inr ⟨_, rfl, Nat.le_refl _⟩⟩
    clear h h3 h4
    go_enter Yba.func26, Yba.ntmps26
    go_wp2_with (at_builtin; refine Lib.wpList_append_run _ rfl _ _ _ _ rfl _ _ rfl rfl _ _ hrun ?_)
    go_ret
    exact HG.out

theorem Yba.info82 : (Yba.prog.info? 82).map (fun i => (i.zero, i.size, i.bytes)) = some (some (.agg #[.bool false, .bool false, .int .i64 0, .int .i64 0]), 4, 24) := by kernel_rfl
/-- The zero cells of this element type. -/
def zOut : Array Value := (Value.cells (.agg #[.bool false, .bool false, .int .i64 0, .int .i64 0]))
theorem zOut_size : zOut.size = 4 := by rfl
theorem zOut_one : ∀ v ∈ zOut.toList, v.oneCell' = true := by
  intro v hv
  simp [zOut, Value.cells] at hv
  try rcases hv with h | h | h | h | h | h
  all_goals (subst_vars; rfl)

set_option maxHeartbeats 800000 in
set_option maxRecDepth 100000 in
theorem growOut_any (ao : Option Addr) (cap n : Nat) (f : Nat → Value) (w : World) (hn : n ≤ 2000) (hc : cap ≤ 9223372036854775807) (h : Own w 82 4 ao cap cap f) :
    Calls Yba.prog 25 #[.slice ao 0 cap, .int .i64 n] w (Grown1 82 4 zOut ao cap n f w) := by
  by_cases hroom : n ≤ cap
  · have HR := Hid.out (p := Grown1 82 4 zOut ao cap n f w (.returned (.slice ao 0 cap)) w) (grown_room h hroom hc)
    have HG : Hid (Grown1 82 4 zOut ao cap n f w (.returned (.slice ao 0 cap)) w) := HR
    clear HR h
    go_enter Yba.func25, Yba.ntmps25
    go_wp2
    go_ret
    exact HG.out
  · obtain ⟨i, hi, hz0, hz1, hz2⟩ := info_parts Yba.info82
    obtain ⟨rc, w', hrun, h1, h2, h3, h4⟩ := run_grow (P := Yba.prog) (t := 27) (ty := 27) w Yba.underlying27 Yba.underlying3 hi hz0 hz1 hz2 rfl (by omega) h (by omega) hn (by omega)
    have HG : Hid (Grown1 82 4 zOut ao cap n f w (.returned (.slice (some ⟨w.heap.size, 0, none⟩) 0 rc)) w') := ⟨_, rc, rfl, h1, h2, h3, h4, .inr ⟨_, rfl, Nat.le_refl _⟩⟩
    clear h h3 h4
    go_enter Yba.func25, Yba.ntmps25
    go_wp2_with (at_builtin; refine Lib.wpList_append_run _ rfl _ _ _ _ rfl _ _ rfl rfl _ _ hrun ?_)
    go_ret
    exact HG.out

theorem Yba.info20 : (Yba.prog.info? 20).map (fun i => (i.zero, i.size, i.bytes)) = some (some (.nilIface), 1, 16) := by kernel_rfl
/-- The zero cells of this element type. -/
def zAny : Array Value := (Value.cells (.nilIface))
theorem zAny_size : zAny.size = 1 := by rfl
theorem zAny_one : ∀ v ∈ zAny.toList, v.oneCell' = true := by
  intro v hv
  simp [zAny, Value.cells] at hv
  try rcases hv with h | h | h | h | h | h
  all_goals (subst_vars; rfl)

set_option maxHeartbeats 800000 in
set_option maxRecDepth 100000 in
theorem growAny_any (ao : Option Addr) (cap n : Nat) (f : Nat → Value) (w : World) (hn : n ≤ 2000) (hc : cap ≤ 9223372036854775807) (h : Own w 20 1 ao cap cap f) :
    Calls Yba.prog 27 #[.slice ao 0 cap, .int .i64 n] w (Grown1 20 1 zAny ao cap n f w) := by
  by_cases hroom : n ≤ cap
  · have HR := Hid.out (p := Grown1 20 1 zAny ao cap n f w (.returned (.slice ao 0 cap)) w) (grown_room h hroom hc)
    have HG : Hid (Grown1 20 1 zAny ao cap n f w (.returned (.slice ao 0 cap)) w) := HR
    clear HR h
    go_enter Yba.func27, Yba.ntmps27
    go_wp2
    go_ret
    exact HG.out
  · obtain ⟨i, hi, hz0, hz1, hz2⟩ := info_parts Yba.info20
    obtain ⟨rc, w', hrun, h1, h2, h3, h4⟩ := run_grow (P := Yba.prog) (t := 37) (ty := 37) w Yba.underlying37 Yba.underlying3 hi hz0 hz1 hz2 rfl (by omega) h (by omega) hn (by omega)
    have HG : Hid (Grown1 20 1 zAny ao cap n f w (.returned (.slice (some ⟨w.heap.size, 0, none⟩) 0 rc)) w') := ⟨_, rc, rfl, h1, h2, h3, h4, .inr ⟨_, rfl, Nat.le_refl _⟩⟩
    clear h h3 h4
    go_enter Yba.func27, Yba.ntmps27
    go_wp2_with (at_builtin; refine Lib.wpList_append_run _ rfl _ _ _ _ rfl _ _ rfl rfl _ _ hrun ?_)
    go_ret
    exact HG.out

theorem Yba.info58 : (Yba.prog.info? 58).map (fun i => (i.zero, i.size, i.bytes)) = some (some (.nilIface), 1, 16) := by kernel_rfl
/-- The zero cells of this element type. -/
def zPrc : Array Value := (Value.cells (.nilIface))
theorem zPrc_size : zPrc.size = 1 := by rfl
theorem zPrc_one : ∀ v ∈ zPrc.toList, v.oneCell' = true := by
  intro v hv
  simp [zPrc, Value.cells] at hv
  try rcases hv with h | h | h | h | h | h
  all_goals (subst_vars; rfl)

set_option maxHeartbeats 800000 in
set_option maxRecDepth 100000 in
theorem growPrc_any (ao : Option Addr) (cap n : Nat) (f : Nat → Value) (w : World) (hn : n ≤ 2000) (hc : cap ≤ 9223372036854775807) (h : Own w 58 1 ao cap cap f) :
    Calls Yba.prog 23 #[.slice ao 0 cap, .int .i64 n] w (Grown1 58 1 zPrc ao cap n f w) := by
  by_cases hroom : n ≤ cap
  · have HR := Hid.out (p := Grown1 58 1 zPrc ao cap n f w (.returned (.slice ao 0 cap)) w) (grown_room h hroom hc)
    have HG : Hid (Grown1 58 1 zPrc ao cap n f w (.returned (.slice ao 0 cap)) w) := HR
    clear HR h
    go_enter Yba.func23, Yba.ntmps23
    go_wp2
    go_ret
    exact HG.out
  · obtain ⟨i, hi, hz0, hz1, hz2⟩ := info_parts Yba.info58
    obtain ⟨rc, w', hrun, h1, h2, h3, h4⟩ := run_grow (P := Yba.prog) (t := 41) (ty := 41) w Yba.underlying41 Yba.underlying3 hi hz0 hz1 hz2 rfl (by omega) h (by omega) hn (by omega)
    have HG : Hid (Grown1 58 1 zPrc ao cap n f w (.returned (.slice (some ⟨w.heap.size, 0, none⟩) 0 rc)) w') := ⟨_, rc, rfl, h1, h2, h3, h4, .inr ⟨_, rfl, Nat.le_refl _⟩⟩
    clear h h3 h4
    go_enter Yba.func23, Yba.ntmps23
    go_wp2_with (at_builtin; refine Lib.wpList_append_run _ rfl _ _ _ _ rfl _ _ rfl rfl _ _ hrun ?_)
    go_ret
    exact HG.out

theorem Yba.info50 : (Yba.prog.info? 50).map (fun i => (i.zero, i.size, i.bytes)) = some (some (.agg #[.slice none 0 0, .slice none 0 0, .slice none 0 0, .slice none 0 0, .slice none 0 0, .slice none 0 0]), 6, 144) := by kernel_rfl
/-- The zero cells of this element type. -/
def zTim : Array Value := (Value.cells (.agg #[.slice none 0 0, .slice none 0 0, .slice none 0 0, .slice none 0 0, .slice none 0 0, .slice none 0 0]))
theorem zTim_size : zTim.size = 6 := by rfl
theorem zTim_one : ∀ v ∈ zTim.toList, v.oneCell' = true := by
  intro v hv
  simp [zTim, Value.cells] at hv
  try rcases hv with h | h | h | h | h | h
  all_goals (subst_vars; rfl)

set_option maxHeartbeats 800000 in
set_option maxRecDepth 100000 in
theorem growTim_any (ao : Option Addr) (cap n : Nat) (f : Nat → Value) (w : World) (hn : n ≤ 2000) (hc : cap ≤ 9223372036854775807) (h : Own w 50 6 ao cap cap f) :
    Calls Yba.prog 22 #[.slice ao 0 cap, .int .i64 n] w (Grown1 50 6 zTim ao cap n f w) := by
  by_cases hroom : n ≤ cap
  · have HR := Hid.out (p := Grown1 50 6 zTim ao cap n f w (.returned (.slice ao 0 cap)) w) (grown_room h hroom hc)
    have HG : Hid (Grown1 50 6 zTim ao cap n f w (.returned (.slice ao 0 cap)) w) := HR
    clear HR h
    go_enter Yba.func22, Yba.ntmps22
    go_wp2
    go_ret
    exact HG.out
  · obtain ⟨i, hi, hz0, hz1, hz2⟩ := info_parts Yba.info50
    obtain ⟨rc, w', hrun, h1, h2, h3, h4⟩ := run_grow (P := Yba.prog) (t := 36) (ty := 36) w Yba.underlying36 Yba.underlying3 hi hz0 hz1 hz2 rfl (by omega) h (by omega) hn (by omega)
    have HG : Hid (Grown1 50 6 zTim ao cap n f w (.returned (.slice (some ⟨w.heap.size, 0, none⟩) 0 rc)) w') := ⟨_, rc, rfl, h1, h2, h3, h4, .inr ⟨_, rfl, Nat.le_refl _⟩⟩
    clear h h3 h4
    go_enter Yba.func22, Yba.ntmps22
    go_wp2_with (at_builtin; refine Lib.wpList_append_run _ rfl _ _ _ _ rfl _ _ rfl rfl _ _ hrun ?_)
    go_ret
    exact HG.out

set_option maxHeartbeats 800000 in
set_option maxRecDepth 100000 in
theorem sizedInt_any (ao : Option Addr) (m cap n : Nat) (f : Nat → Value) (w : World) (hn : n ≤ 2000) (hc : cap ≤ 9223372036854775807) (h : Own w 3 1 ao cap cap f) :
    Calls Yba.prog 20 #[.slice ao m cap, .int .i64 n] w (Sized1 3 1 zInt ao n w) := by
  obtain ⟨i, hi, hz0, hz1, hz2⟩ := info_parts Yba.info3g
  have HC : Hid (Calls Yba.prog 26 #[.slice ao 0 cap, .int .i64 n] w (Grown1 3 1 zInt ao cap n f w)) := growInt_any ao cap n f w hn hc h
  clear h
  go_enter Yba.func20, Yba.ntmps20
  go_wp2_with fail
  refine HC.out.mono ?_
  rintro en w1 ⟨ro, rc, rfl, h1, h2, h3, h4, h5⟩
  obtain ⟨w2, hcl, o2, g2⟩ := run_clear_own (P := Yba.prog) (t := 26) (size := 1) w1 Yba.underlying26 hi hz0 rfl zInt_one (by omega) (h3.shrink h1)
  have HF : Hid (Sized1 3 1 zInt ao n w (.returned (.slice ro n rc)) w2) := sized_end h4 o2 g2 h5
  clear h3 h4 h5 o2 g2
  go_wp2_with fail
  go_ret
  exact HF.out

set_option maxHeartbeats 800000 in
set_option maxRecDepth 100000 in
theorem sizedOut_any (ao : Option Addr) (m cap n : Nat) (f : Nat → Value) (w : World) (hn : n ≤ 2000) (hc : cap ≤ 9223372036854775807) (h : Own w 82 4 ao cap cap f) :
    Calls Yba.prog 19 #[.slice ao m cap, .int .i64 n] w (Sized1 82 4 zOut ao n w) := by
  obtain ⟨i, hi, hz0, hz1, hz2⟩ := info_parts Yba.info82
  have HC : Hid (Calls Yba.prog 25 #[.slice ao 0 cap, .int .i64 n] w (Grown1 82 4 zOut ao cap n f w)) := growOut_any ao cap n f w hn hc h
  clear h
  go_enter Yba.func19, Yba.ntmps19
  go_wp2_with fail
  refine HC.out.mono ?_
  rintro en w1 ⟨ro, rc, rfl, h1, h2, h3, h4, h5⟩
  obtain ⟨w2, hcl, o2, g2⟩ := run_clear_own (P := Yba.prog) (t := 27) (size := 4) w1 Yba.underlying27 hi hz0 rfl zOut_one (by omega) (h3.shrink h1)
  have HF : Hid (Sized1 82 4 zOut ao n w (.returned (.slice ro n rc)) w2) := sized_end h4 o2 g2 h5
  clear h3 h4 h5 o2 g2
  go_wp2_with fail
  go_ret
  exact HF.out

set_option maxHeartbeats 800000 in
set_option maxRecDepth 100000 in
theorem sizedAny_any (ao : Option Addr) (m cap n : Nat) (f : Nat → Value) (w : World) (hn : n ≤ 2000) (hc : cap ≤ 9223372036854775807) (h : Own w 20 1 ao cap cap f) :
    Calls Yba.prog 21 #[.slice ao m cap, .int .i64 n] w (Sized1 20 1 zAny ao n w) := by
  obtain ⟨i, hi, hz0, hz1, hz2⟩ := info_parts Yba.info20
  have HC : Hid (Calls Yba.prog 27 #[.slice ao 0 cap, .int .i64 n] w (Grown1 20 1 zAny ao cap n f w)) := growAny_any ao cap n f w hn hc h
  clear h
  go_enter Yba.func21, Yba.ntmps21
  go_wp2_with fail
  refine HC.out.mono ?_
  rintro en w1 ⟨ro, rc, rfl, h1, h2, h3, h4, h5⟩
  obtain ⟨w2, hcl, o2, g2⟩ := run_clear_own (P := Yba.prog) (t := 37) (size := 1) w1 Yba.underlying37 hi hz0 rfl zAny_one (by omega) (h3.shrink h1)
  have HF : Hid (Sized1 20 1 zAny ao n w (.returned (.slice ro n rc)) w2) := sized_end h4 o2 g2 h5
  clear h3 h4 h5 o2 g2
  go_wp2_with fail
  go_ret
  exact HF.out
end Go.Proofs.Ybulkdejs
