/-
  slices.Grow(s[:0], n) AND 'sized' over rows of the call's own: the laws of no program, for whatever element type.
-/
import Derived.Test.YbulkdejsMem
import Derived.Lib.AppendZerosOnto
import Derived.Lib.SliceRun
namespace Go.Proofs.Ybulkdejs
open Go.RowKit Go.Deep
set_option linter.unusedVariables false
set_option linter.unusedSimpArgs false

/-- The cells f up to m, zero cells beyond. -/
def ext (size : Nat) (zs : Array Value) (m : Nat) (f : Nat → Value) (j : Nat) : Value := if j < m then f j else zs[j % size]!

/-- Zero cells. -/
def zf (size : Nat) (zs : Array Value) (j : Nat) : Value := zs[j % size]!

theorem zeroCells_size (zs : Array Value) (k : Nat) : (Builtin.zeroCells zs k).size = k * zs.size := by simp [Builtin.zeroCells]
theorem zeroCells_get (zs : Array Value) (k j : Nat) (hj : j < k * zs.size) : (Builtin.zeroCells zs k)[j]? = some zs[j % zs.size]! := by simp [Builtin.zeroCells, hj]

theorem Own.shrink {w : World} {e size : Nat} {ao : Option Addr} {m n cap : Nat} {f : Nat → Value} (h : Own w e size ao m cap f) (hn : n ≤ m) : Own w e size ao n cap f := by
  rcases h with ⟨h1, h2, h3⟩ | ⟨b, cur, h1, h2, h3, h4, h5, h6⟩
  · exact .inl ⟨h1, by omega, h3⟩
  · exact .inr ⟨b, cur, h1, h2, by omega, h4, h5, fun j hj => h6 j (Nat.lt_of_lt_of_le hj (Nat.mul_le_mul_right _ hn))⟩

section
variable {P : Program} {t e ty : TypeId} {i : TypeInfo} {z : Value} {size bytes : Nat}

/-- 'append(s[:cap(s)], make([]T, n - cap(s))...)', s a row of the call's own without room for n. -/
theorem run_grow (w : World) (ht : P.underlying t = some (.slice e)) (hi3 : P.underlying 3 = some (.int .i64)) (hi : P.info? e = some i) (hz : i.zero = some z) (hsize : i.size = size) (hby : i.bytes = bytes) (hzs : z.cells.size = size) (hsz : 0 < size)
    {ao : Option Addr} {cap n : Nat} {f : Nat → Value} (hown : Own w e size ao cap cap f) (hlt : cap < n) (hn : n ≤ 2000) (hb : bytes ≤ 1000) :
    ∃ rc w', (Builtin.append_ #[t, 3] ty #[.slice ao cap cap, .int .i64 ((n : Int) - (cap : Int))]).run P w = .ok (.slice (some ⟨w.heap.size, 0, none⟩) n rc) w' ∧ n ≤ rc ∧ rc ≤ 9223372036854775807 ∧
      Own w' e size (some ⟨w.heap.size, 0, none⟩) rc rc (ext size z.cells (cap * size) f) ∧ w.grownBy w' none := by
  subst hsize hby
  have hcl : ((List.range (cap * i.size)).map f).length = cap * i.size := by simp
  have hold : (Builtin.firstCells i.size cap (.slice ao cap cap)).run P w.drew = .ok ((List.range (cap * i.size)).map f).toArray w.drew := by
    cases ao with
    | none =>
      obtain ⟨rfl, _⟩ := hown.nil rfl
      simp only [Nat.zero_mul, List.range_zero, List.map_nil]
      exact run_firstCells_none w.drew i.size 0 0 0
    | some a =>
      refine run_firstCells_some w.drew i.size cap a cap cap _ hcl (fun j v hj => ?_)
      have hj' : j < cap * i.size := by have := (List.getElem?_eq_some_iff.1 hj).1; simpa using this
      simp [hj'] at hj
      obtain ⟨g, h1, h2, h3, _⟩ := hown.cell hj'
      simp at h1
      subst h1
      rw [Addr.add_lit, Nat.zero_add, ← hj]
      exact h3
  have hk : cap + (n - cap) = n := by omega
  have hmul : n * i.bytes ≤ 2000 * 1000 := Nat.mul_le_mul hn hb
  have h := Lib.run_append_grow_zeros w t 3 ty e i z .i64 .i64 ht hi3 hi hz ao cap cap _ hold (n - cap) (by omega) hsz (by omega) (by omega)
    (by have : (n - cap) * i.bytes ≤ n * i.bytes := Nat.mul_le_mul_right _ (by omega)
        omega)
    (by rw [hk]; exact growslice_fits (by omega) (by omega))
  rw [hk, show ((n - cap : Nat) : Int) = (n : Int) - (cap : Int) by omega] at h
  have hG := grownCap_ge w n cap e
  have hG2 := grownCap_le_maxLen w n cap e (by unfold maxLen; omega)
  refine ⟨grownCap w n cap e, _, h, hG, by unfold maxLen at hG2; omega, ?_, ?_⟩
  · refine .inr ⟨_, _, rfl, heap_alloc_new _ _, Nat.le_refl _, hG2, ?_, fun j hj => ?_⟩
    · have e1 : (n - cap) * i.size = n * i.size - cap * i.size := Nat.sub_mul ..
      have e2 : (grownCap w n cap e - n) * i.size = grownCap w n cap e * i.size - n * i.size := Nat.sub_mul ..
      have l1 : cap * i.size ≤ n * i.size := Nat.mul_le_mul_right _ (by omega)
      have l2 : n * i.size ≤ grownCap w n cap e * i.size := Nat.mul_le_mul_right _ hG
      simp only [Array.size_append, zeroCells_size, hzs, List.size_toArray, hcl, e1, e2]
      omega
    · have e1 : (n - cap) * i.size = n * i.size - cap * i.size := Nat.sub_mul ..
      have e2 : (grownCap w n cap e - n) * i.size = grownCap w n cap e * i.size - n * i.size := Nat.sub_mul ..
      have l1 : cap * i.size ≤ n * i.size := Nat.mul_le_mul_right _ (by omega)
      have l2 : n * i.size ≤ grownCap w n cap e * i.size := Nat.mul_le_mul_right _ hG
      have s0 : (((List.range (cap * i.size)).map f).toArray).size = cap * i.size := by simp
      have s1 : (Builtin.zeroCells z.cells (n - cap)).size = n * i.size - cap * i.size := by rw [zeroCells_size, hzs, e1]
      have s2 : (Builtin.zeroCells z.cells (grownCap w n cap e - n)).size = grownCap w n cap e * i.size - n * i.size := by rw [zeroCells_size, hzs, e2]
      unfold ext
      by_cases h1 : j < cap * i.size
      · rw [if_pos h1, Array.getElem?_append_left (by rw [Array.size_append, s0]; omega), Array.getElem?_append_left (by rw [s0]; exact h1)]
        simp [h1]
      · rw [if_neg h1]
        by_cases h2 : j < n * i.size
        · rw [Array.getElem?_append_left (by rw [Array.size_append, s0, s1]; omega), Array.getElem?_append_right (by rw [s0]; omega), s0, zeroCells_get _ _ _ (by rw [hzs, e1]; omega), hzs]
          congr 2
          have : j = j - cap * i.size + i.size * cap := by rw [Nat.mul_comm i.size cap]; omega
          conv => rhs; rw [this, Nat.add_mul_mod_self_left]
        · rw [Array.getElem?_append_right (by rw [Array.size_append, s0, s1]; omega), Array.size_append, s0, s1, zeroCells_get _ _ _ (by rw [hzs, e2]; omega), hzs]
          congr 2
          have : j = j - (cap * i.size + (n * i.size - cap * i.size)) + i.size * n := by rw [Nat.mul_comm i.size n]; omega
          conv => rhs; rw [this, Nat.add_mul_mod_self_left]
  · exact ⟨rfl, rfl, rfl, by simp, fun k hk' _ => Below.heap_alloc w.drew _ k hk'⟩

/-- 'clear(s)', s a row of the call's own. -/
theorem run_clear_own (w : World) (ht : P.underlying t = some (.slice e)) (hi : P.info? e = some i) (hz : i.zero = some z) (hzs : z.cells.size = size) (h1 : ∀ v ∈ z.cells.toList, v.oneCell' = true) (hsz : 0 < size)
    {ao : Option Addr} {n cap : Nat} {f : Nat → Value} (hown : Own w e size ao n cap f) :
    ∃ w', (∀ ty, (Builtin.clear_ #[t] ty #[.slice ao n cap]).run P w = .ok (.tuple #[]) w') ∧ Own w' e size ao n cap (zf size z.cells) ∧ w.grownBy w' (blk ao) := by
  have hv : ∀ w, (zeroValue e).run P w = .ok z w := fun w => by simp [zeroValue, typeInfo, hi, hz]
  by_cases h0 : n = 0
  · subst h0
    refine ⟨w, fun ty => ?_, hown.zero _, World.grownBy.refl _ _⟩
    cases ao <;> simp [Builtin.clear_, run_underlying ht]
  · rcases hown with ⟨_, h, _⟩ | ⟨g, cur, rfl, h2, h3, h4, h5, h6⟩
    · omega
    have hle : n * size ≤ cap * size := Nat.mul_le_mul_right _ h3
    have hzl : (Builtin.zeroCells z.cells n).toList.length = n * size := by rw [Array.length_toList, zeroCells_size, hzs]
    have hone : ∀ v ∈ (Builtin.zeroCells z.cells n).toList, v.oneCell' = true := by
      intro v hv'
      simp [Builtin.zeroCells] at hv'
      obtain ⟨j, hj, rfl⟩ := hv'
      have hlt : j % z.cells.size < z.cells.size := Nat.mod_lt _ (by omega)
      rw [getElem!_pos z.cells _ hlt]
      exact h1 _ (by simp)
    have hst := run_storeCells_at P g 0 e (Builtin.zeroCells z.cells n).toList 0 cur w h2 (by rw [hzl, h5]; omega) hone
    have hlist : cur.toList.take (0 + 0) ++ (Builtin.zeroCells z.cells n).toList ++ cur.toList.drop (0 + 0 + (Builtin.zeroCells z.cells n).toList.length) = (Builtin.zeroCells z.cells n).toList ++ cur.toList.drop (n * size) := by
      rw [hzl]
      simp
    rw [hlist] at hst
    obtain ⟨W, hW⟩ : ∃ W, W = w.setRow g ((Builtin.zeroCells z.cells n).toList ++ cur.toList.drop (n * size)).toArray := ⟨_, rfl⟩
    rw [← hW] at hst
    obtain ⟨m, rfl⟩ : ∃ m, n = m + 1 := ⟨n - 1, by omega⟩
    refine ⟨W, fun ty => by simp [Builtin.clear_, run_underlying ht, hv, hst], ?_, ?_⟩
    · rw [hW]
      refine .inr ⟨g, _, rfl, setRow_heap _ _ _ _ _ _ h2, h3, h4, ?_, fun j hj => ?_⟩
      · simp only [List.size_toArray, List.length_append, hzl, List.length_drop, Array.length_toList, h5]
        omega
      · have hz2 : (Builtin.zeroCells z.cells (m + 1))[j]? = some (zf size z.cells j) := by rw [zeroCells_get _ _ _ (by rw [hzs]; exact hj), hzs]; rfl
        rw [List.getElem?_toArray, List.getElem?_append_left (by rw [hzl]; exact hj), Array.getElem?_toList]
        exact hz2
    · rw [hW]
      exact ⟨rfl, rfl, rfl, by simp [World.setRow], fun k hk hne => setRow_other w g k _ (fun e => hne (by rw [e]; rfl))⟩
end
end Go.Proofs.Ybulkdejs
