/-
  MEMORY WORDS for seat b5283a: a slice that the call itself made ('Own'), a slice that came in ('Ints', 'Quads'), 'append(x[:0], y...)' as one step.
-/
import Derived.Test.YbulkdejsRows
import Derived.WalkKit
import Derived.ProofKit
import Derived.Below
import Derived.WalkSmall
import Derived.WalkSpells
import Derived.BigQuiet
import Derived.Deep.QuietTactic
import Derived.Deep.OwnRows
import Derived.Deep.RegionLawGrows
import Derived.Laws.CopyOwn
import Derived.RegionTactic
namespace Go.Proofs.Ybulkdejs
open Go.RowKit Go.Deep
set_option linter.unusedVariables false
set_option linter.unusedSimpArgs false

theorem hid {p : Prop} (h : p) : Hid p := h

/-- A slice of ints that is read: n cells from its address on. -/
def Ints (w : World) (ao : Option Addr) (n : Nat) (Z : Nat → Int) : Prop :=
  ∀ i, i < n → ∃ b off, ao = some ⟨b, off, none⟩ ∧ b < w.heap.size ∧ w.cell? ⟨b, off + i, none⟩ = some (.int .i64 (Z i))

/-- A slice of structs (int, int, bool, bool) that is read. -/
def Quads (w : World) (ao : Option Addr) (n : Nat) (L V : Nat → Int) (H R : Nat → Bool) : Prop :=
  ∀ i, i < n → ∃ b off, ao = some ⟨b, off, none⟩ ∧ b < w.heap.size ∧ w.cell? ⟨b, off + i * 4, none⟩ = some (.int .i64 (L i)) ∧ w.cell? ⟨b, off + i * 4 + 1, none⟩ = some (.int .i64 (V i)) ∧
    w.cell? ⟨b, off + i * 4 + 2, none⟩ = some (.bool (H i)) ∧ w.cell? ⟨b, off + i * 4 + 3, none⟩ = some (.bool (R i))

/-- THE SLICE '.slice ao n cap' LIES IN A ROW OF THE CALL's OWN (or is nil): its cells hold f. -/
def Own (w : World) (e size : Nat) (ao : Option Addr) (n cap : Nat) (f : Nat → Value) : Prop :=
  (ao = none ∧ n = 0 ∧ cap = 0) ∨ ∃ g cur, ao = some ⟨g, 0, none⟩ ∧ w.heap[g]? = some (.cells cur e (0, 0)) ∧ n ≤ cap ∧ cap ≤ maxLen ∧ cur.size = cap * size ∧ ∀ j, j < n * size → cur[j]? = some (f j)

/-- The block that a slice leads to is not g. -/
def Off (ao : Option Addr) (g : Nat) : Prop := ∀ a, ao = some a → a.block ≠ g

/-- Two slices lead to two blocks. -/
def Apart (ao bo : Option Addr) : Prop := ∀ a b, ao = some a → bo = some b → a.block ≠ b.block

theorem Apart.symm {ao bo : Option Addr} (h : Apart ao bo) : Apart bo ao := fun a b ha hb e => h b a hb ha e.symm

def blk (ao : Option Addr) : Option Nat := ao.map (·.block)

theorem Own.zero {w : World} {e size : Nat} {ao : Option Addr} {n cap : Nat} {f : Nat → Value} (h : Own w e size ao n cap f) (g : Nat → Value) : Own w e size ao 0 cap g := by
  rcases h with ⟨h1, _, h3⟩ | ⟨b, cur, h1, h2, h3, h4, h5, _⟩
  · exact .inl ⟨h1, rfl, h3⟩
  · exact .inr ⟨b, cur, h1, h2, Nat.zero_le _, h4, h5, fun j hj => by omega⟩

theorem Own.congr {w : World} {e size : Nat} {ao : Option Addr} {n cap : Nat} {f g : Nat → Value} (h : Own w e size ao n cap f) (hfg : ∀ j, j < n * size → f j = g j) : Own w e size ao n cap g := by
  rcases h with h | ⟨b, cur, h1, h2, h3, h4, h5, h6⟩
  · exact .inl h
  · exact .inr ⟨b, cur, h1, h2, h3, h4, h5, fun j hj => by rw [h6 j hj, hfg j hj]⟩

theorem Own.lt {w : World} {e size : Nat} {ao : Option Addr} {n cap : Nat} {f : Nat → Value} (h : Own w e size ao n cap f) : ∀ a, ao = some a → a.block < w.heap.size := by
  intro a ha
  rcases h with ⟨h1, _, _⟩ | ⟨b, cur, h1, h2, _⟩
  · rw [h1] at ha; cases ha
  · rw [h1] at ha
    obtain rfl := Option.some.inj ha
    obtain ⟨hlt, _⟩ := Array.getElem?_eq_some_iff.1 h2
    exact hlt

theorem Own.nil {w : World} {e size : Nat} {ao : Option Addr} {n cap : Nat} {f : Nat → Value} (h : Own w e size ao n cap f) : ao = none → n = 0 ∧ cap = 0 := by
  intro ha
  rcases h with ⟨_, h2, h3⟩ | ⟨b, cur, h1, _⟩
  · exact ⟨h2, h3⟩
  · rw [h1] at ha; cases ha

/-- The row is as it was. -/
theorem Own.of_block {w w' : World} {e size : Nat} {ao : Option Addr} {n cap : Nat} {f : Nat → Value} (h : Own w e size ao n cap f) (hb : ∀ a, ao = some a → w'.heap[a.block]? = w.heap[a.block]?) : Own w' e size ao n cap f := by
  rcases h with h | ⟨b, cur, h1, h2, h3⟩
  · exact .inl h
  · exact .inr ⟨b, cur, h1, (hb _ h1).trans h2, h3⟩

theorem Own.below {w w' : World} {B e size : Nat} {ao : Option Addr} {n cap : Nat} {f : Nat → Value} (h : Own w e size ao n cap f) (hb : Below B w w') (hlt : ∀ a, ao = some a → a.block < B) : Own w' e size ao n cap f :=
  h.of_block fun a ha => hb.block _ (hlt a ha)

theorem Own.below' {w w' : World} {e size : Nat} {ao : Option Addr} {n cap : Nat} {f : Nat → Value} (h : Own w e size ao n cap f) (hb : Below w.heap.size w w') : Own w' e size ao n cap f :=
  h.below hb h.lt

theorem Own.grown {w w' : World} {e size : Nat} {ao : Option Addr} {n cap : Nat} {f : Nat → Value} {row : Option Nat} (h : Own w e size ao n cap f) (hg : w.grownBy w' row) (hne : ∀ a, ao = some a → some a.block ≠ row) : Own w' e size ao n cap f :=
  h.of_block fun a ha => hg.block _ (h.lt a ha) (hne a ha)

theorem Own.setCell {w : World} {e size : Nat} {ao : Option Addr} {n cap : Nat} {f : Nat → Value} (h : Own w e size ao n cap f) {p : Addr} (hp : Off ao p.block) (v : Value) : Own (w.setCell p v) e size ao n cap f :=
  h.of_block fun a ha => Below.heap_setCell _ _ _ _ (hp a ha)

theorem Own.alloc {w : World} {e size : Nat} {ao : Option Addr} {n cap : Nat} {f : Nat → Value} (h : Own w e size ao n cap f) (o : Obj) : Own (w.alloc o) e size ao n cap f :=
  h.of_block fun a ha => Below.heap_alloc _ _ _ (h.lt a ha)

theorem Own.cell {w : World} {e size : Nat} {ao : Option Addr} {n cap : Nat} {f : Nat → Value} (h : Own w e size ao n cap f) {j : Nat} (hj : j < n * size) : ∃ g, ao = some ⟨g, 0, none⟩ ∧ g < w.heap.size ∧ w.cell? ⟨g, j, none⟩ = some (f j) ∧ w.frozen? ⟨g, j, none⟩ = false := by
  have hlt := h.lt
  rcases h with ⟨_, h2, _⟩ | ⟨b, cur, h1, h2, h3, h4, h5, h6⟩
  · subst h2; omega
  · exact ⟨b, h1, hlt _ h1, by simp [World.cell?, h2, h6 j hj], by simp [World.frozen?, h2]⟩

theorem Own.ints {w : World} {e : Nat} {ao : Option Addr} {n cap : Nat} {Z : Nat → Int} (h : Own w e 1 ao n cap (fun j => .int .i64 (Z j))) : Ints w ao n Z := by
  intro i hi
  obtain ⟨g, h1, h2, h3, _⟩ := h.cell (j := i) (by omega)
  exact ⟨g, 0, h1, h2, by rw [Nat.zero_add]; exact h3⟩

/-- What the cells of a row of copies hold. -/
def quadF (L V : Nat → Int) (H R : Nat → Bool) (j : Nat) : Value :=
  if j % 4 = 0 then .int .i64 (L (j / 4)) else if j % 4 = 1 then .int .i64 (V (j / 4)) else if j % 4 = 2 then .bool (H (j / 4)) else .bool (R (j / 4))

theorem quadF0 (L V : Nat → Int) (H R : Nat → Bool) (i : Nat) : quadF L V H R (i * 4) = .int .i64 (L i) := by
  unfold quadF; rw [if_pos (by omega), show i * 4 / 4 = i from by omega]
theorem quadF1 (L V : Nat → Int) (H R : Nat → Bool) (i : Nat) : quadF L V H R (i * 4 + 1) = .int .i64 (V i) := by
  unfold quadF; rw [if_neg (by omega), if_pos (by omega), show (i * 4 + 1) / 4 = i from by omega]
theorem quadF2 (L V : Nat → Int) (H R : Nat → Bool) (i : Nat) : quadF L V H R (i * 4 + 2) = .bool (H i) := by
  unfold quadF; rw [if_neg (by omega), if_neg (by omega), if_pos (by omega), show (i * 4 + 2) / 4 = i from by omega]
theorem quadF3 (L V : Nat → Int) (H R : Nat → Bool) (i : Nat) : quadF L V H R (i * 4 + 3) = .bool (R i) := by
  unfold quadF; rw [if_neg (by omega), if_neg (by omega), if_neg (by omega), show (i * 4 + 3) / 4 = i from by omega]

theorem Own.quads {w : World} {e : Nat} {ao : Option Addr} {n cap : Nat} {L V : Nat → Int} {H R : Nat → Bool} (h : Own w e 4 ao n cap (quadF L V H R)) : Quads w ao n L V H R := by
  intro i hi
  obtain ⟨g, h1, h2, h3, _⟩ := h.cell (j := i * 4) (by omega)
  obtain ⟨g1, k1, _, k3, _⟩ := h.cell (j := i * 4 + 1) (by omega)
  obtain ⟨g2, l1, _, l3, _⟩ := h.cell (j := i * 4 + 2) (by omega)
  obtain ⟨g3, m1, _, m3, _⟩ := h.cell (j := i * 4 + 3) (by omega)
  rw [h1] at k1 l1 m1
  simp at k1 l1 m1
  subst k1 l1 m1
  rw [quadF0] at h3
  rw [quadF1] at k3
  rw [quadF2] at l3
  rw [quadF3] at m3
  exact ⟨g, 0, h1, h2, by rw [Nat.zero_add]; exact h3, by rw [Nat.zero_add]; exact k3, by rw [Nat.zero_add]; exact l3, by rw [Nat.zero_add]; exact m3⟩

theorem Ints.later {w w' : World} {ao : Option Addr} {n : Nat} {Z : Nat → Int} (h : Ints w ao n Z) (hb : Below w.heap.size w w') : Ints w' ao n Z := by
  intro i hi
  obtain ⟨b, off, e, hlt, c⟩ := h i hi
  have := hb.size
  exact ⟨b, off, e, by omega, (hb.cell (by exact hlt)).trans c⟩

theorem Quads.later {w w' : World} {ao : Option Addr} {n : Nat} {L V : Nat → Int} {H R : Nat → Bool} (h : Quads w ao n L V H R) (hb : Below w.heap.size w w') : Quads w' ao n L V H R := by
  intro i hi
  obtain ⟨b, off, e, hlt, c0, c1, c2, c3⟩ := h i hi
  have := hb.size
  exact ⟨b, off, e, by omega, (hb.cell (by exact hlt)).trans c0, (hb.cell (by exact hlt)).trans c1, (hb.cell (by exact hlt)).trans c2, (hb.cell (by exact hlt)).trans c3⟩

/-! ### append(x[:0], y...) -/

/-- The same, as the base says it. -/
theorem Own.owns {w : World} {e size : Nat} {ao : Option Addr} {n cap : Nat} {f : Nat → Value} (h : Own w e size ao n cap f) : w.ownsRow 0 e size (.slice ao n cap) n ((List.range (n * size)).map f) := by
  rcases h with ⟨rfl, rfl, rfl⟩ | ⟨g, cur, rfl, h2, h3, h4, h5, h6⟩
  · exact ⟨by simp, .inl ⟨rfl, rfl⟩⟩
  · refine ⟨by simp, .inr ⟨g, cap, cur, rfl, Nat.zero_le _, h2, h3, h4, h5, ?_⟩⟩
    apply List.ext_getElem?
    intro j
    have hle : n * size ≤ cur.size := by rw [h5]; exact Nat.mul_le_mul_right _ h3
    by_cases hj : j < n * size
    · simp [List.getElem?_take, hj, h6 j hj]
    · simp [List.getElem?_take, hj]

theorem own_of_owns {w : World} {base e size : Nat} {v : Value} {n : Nat} {f : Nat → Value} (h : w.ownsRow base e size v n ((List.range (n * size)).map f)) :
    ∃ ao cap, v = .slice ao n cap ∧ Own w e size ao n cap f ∧ (ao = none ∨ ∃ g, ao = some ⟨g, 0, none⟩ ∧ base ≤ g) := by
  rcases h.2 with ⟨rfl, rfl⟩ | ⟨g, cap, cur, rfl, hb, h2, h3, h4, h5, h6⟩
  · exact ⟨none, 0, rfl, .inl ⟨rfl, rfl, rfl⟩, .inl rfl⟩
  · refine ⟨some ⟨g, 0, none⟩, cap, rfl, .inr ⟨g, cur, rfl, h2, h3, h4, h5, fun j hj => ?_⟩, .inr ⟨g, rfl, hb⟩⟩
    have hle : n * size ≤ cur.size := by rw [h5]; exact Nat.mul_le_mul_right _ h3
    have := congrArg (fun l : List Value => l[j]?) h6
    simp [List.getElem?_take, hj] at this
    exact this

section
variable {P : Program} {e : TypeId} {t ty : TypeId} {i : TypeInfo} {z : Value} {size bytes : Nat}

/-- 'append(x[:0], y...)', x and y rows of the call's own (they may be one): y's elements lie in x's row where there is room, else in a new one. -/
theorem run_append_zero (w : World) (ht : P.underlying t = some (.slice e)) (hi : P.info? e = some i) (hz : i.zero = some z) (hsize : i.size = size) (hby : i.bytes = bytes) (hzs : z.cells.size = size) (hsz : 0 < size)
    {ao : Option Addr} {cap : Nat} {f0 : Nat → Value} (hown : Own w e size ao 0 cap f0) {qo : Option Addr} {m qc : Nat} {f : Nat → Value} (hq : Own w e size qo m qc f) (h1 : ∀ j, (f j).oneCell' = true)
    (hm : m ≤ maxLen) (hb : m * bytes ≤ 140737488355328) :
    ∃ ro rc w', (Builtin.append_ #[t, t] ty #[.slice ao 0 cap, .slice qo m qc]).run P w = .ok (.slice ro m rc) w' ∧ Own w' e size ro m rc f ∧ w.grownBy w' (blk ao) ∧ (ro = ao ∨ ∃ g, ro = some ⟨g, 0, none⟩ ∧ w.heap.size ≤ g) := by
  cases qo with
  | none =>
    obtain ⟨rfl, rfl⟩ := hq.nil rfl
    have hr := run_append_owned_none (P := P) w 0 t ty e i size ht hi _ 0 _ hown.owns
    exact ⟨ao, cap, w, hr, hown.zero f, World.grownBy.refl _ _, .inl rfl⟩
  | some a =>
    have hl : ((List.range (m * size)).map f).length = m * size := by simp
    have hnews : ∀ j u, ((List.range (m * size)).map f)[j]? = some u → w.cell? (a.add j) = some u := by
      intro j u hu
      have hj : j < m * size := by have := (List.getElem?_eq_some_iff.1 hu).1; simpa using this
      simp [hj] at hu
      obtain ⟨g, e1, _, e2, _⟩ := hq.cell hj
      simp at e1
      subst e1
      rw [Addr.add_lit, Nat.zero_add, e2, hu]
    have h1' : ∀ u ∈ (List.range (m * size)).map f, u.oneCell' = true := by
      intro u hu
      obtain ⟨j, _, rfl⟩ := List.mem_map.1 hu
      exact h1 j
    cases ao with
    | none =>
      obtain ⟨_, rfl⟩ := hown.nil rfl
      obtain ⟨v', w', hrun, r1, r2, _⟩ := run_append_own (P := P) w w.heap.size t ty e i z size bytes ht hi hz hsize hby hzs hsz (.slice none 0 0) 0 [] (World.ownsRow_nil w _ e size) a m qc _ hl hnews h1' (by omega) (by simpa using hb) (Nat.le_refl _)
      rw [List.nil_append, Nat.zero_add] at r1
      obtain ⟨ro, rc, rfl, hro, hfr⟩ := own_of_owns r1
      refine ⟨ro, rc, w', hrun, hro, r2, ?_⟩
      rcases hfr with h | h
      · exact .inl h
      · exact .inr h
    | some b =>
      rcases hown with ⟨h, _⟩ | ⟨g, cur, hg, h2, h3, h4, h5, h6⟩
      · cases h
      obtain rfl := Option.some.inj hg
      by_cases hroom : m ≤ cap
      · have hown : Own w e size (some ⟨g, 0, none⟩) 0 cap f0 := .inr ⟨g, cur, rfl, h2, h3, h4, h5, h6⟩
        have ho := hown.owns
        simp only [Nat.zero_mul, List.range_zero, List.map_nil] at ho
        obtain ⟨w', hrun, r1, r2⟩ := run_append_fits (P := P) w 0 t ty e i size ht hi hsize g 0 cap [] ho a m qc _ hl hnews h1' (by omega)
        rw [List.nil_append, Nat.zero_add] at r1
        rw [Nat.zero_add] at hrun
        obtain ⟨ro, rc, hv, hro, _⟩ := own_of_owns r1
        simp only [Value.slice.injEq] at hv
        obtain ⟨rfl, _, rfl⟩ := hv
        exact ⟨_, _, w', hrun, hro, r2, .inl rfl⟩
      · obtain ⟨v', w', hrun, r1, r2⟩ := run_append_arg_grows (P := P) w t ty e i z size bytes ht hi hz hsize hby hzs hsz ⟨g, 0, none⟩ 0 cap [] (by simp) (fun j u hu => by simp at hu) a m qc _ hl hnews (by omega) (by omega) (by simpa using hb)
        rw [List.nil_append, Nat.zero_add] at r1
        obtain ⟨ro, rc, rfl, hro, hfr⟩ := own_of_owns r1
        refine ⟨ro, rc, w', hrun, hro, ⟨r2.os, r2.tape, r2.output, r2.size, fun k hk _ => r2.block k hk (by simp)⟩, ?_⟩
        rcases hfr with h | ⟨g', h, h'⟩
        · subst h
          obtain ⟨rfl, _⟩ := hro.nil rfl
          omega
        · exact .inr ⟨g', h, h'⟩

/-- .. as one step of a region that draws its order. -/
theorem step_append_zero {ops : Array Oper} {o : Oper} {a : Act} {w : World} {K : Act → World → Prop} {Q : Exit → Act → World → Prop} {E : Prop} (hg : o.guard = none) (s x : Operand) (t : TypeId)
    (hop : o.op = Op.call { callee := Callee.builtin Builtin.append, args := #[s, x], argTypes := #[t, t] }) (ht : P.underlying t = some (.slice e)) (hi : P.info? e = some i) (hz : i.zero = some z) (hsize : i.size = size) (hby : i.bytes = bytes) (hzs : z.cells.size = size) (hsz : 0 < size)
    {ao : Option Addr} {cap : Nat} {f0 : Nat → Value} (hs : a.eval s = .slice ao 0 cap) (hown : Own w e size ao 0 cap f0) {qo : Option Addr} {m qc : Nat} {f : Nat → Value} (hx : a.eval x = .slice qo m qc) (hq : Own w e size qo m qc f) (h1 : ∀ j, (f j).oneCell' = true)
    (hm : m ≤ maxLen) (hb : m * bytes ≤ 140737488355328)
    (hK : ∀ ro rc w', Own w' e size ro m rc f → w.grownBy w' (blk ao) → (ro = ao ∨ ∃ g, ro = some ⟨g, 0, none⟩ ∧ w.heap.size ≤ g) → K (a.put o.dst (.slice ro m rc)) w') :
    if Region.wanted o (yielded ops a.tmps) = true then Oper.wp P o a w K Q else E := by
  have hw : Region.wanted o (yielded ops a.tmps) = true := by simp [Region.wanted, hg]
  rw [if_pos hw]
  obtain ⟨ro, rc, w', hrun, h2, h3, h4⟩ := run_append_zero (P := P) (ty := o.type) w ht hi hz hsize hby hzs hsz hown hq h1 hm hb
  unfold Oper.wp
  simp [execOp, hop, resolve, invoke, builtin, hs, hx, hrun, Result.andThen]
  exact hK ro rc w' h2 h3 h4

end
end Go.Proofs.Ybulkdejs
