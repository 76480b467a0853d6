/-
  TAGS: each block has an owner (a number); a step writes only to blocks of some owners.
-/
import Derived.Test.YbulkdejsFill
namespace Go.Proofs.Ybulkdejs
open Go.RowKit Go.Deep
set_option linter.unusedVariables false
set_option linter.unusedSimpArgs false

/-- From W to W' only blocks whose owner is in S have turned; every old block keeps its owner. -/
structure Step (S : Nat → Prop) (W : World) (tag : Nat → Nat) (W' : World) (tag' : Nat → Nat) : Prop where
  os : W'.os = W.os
  tape : W'.tape = W.tape
  output : W'.output = W.output
  size : W.heap.size ≤ W'.heap.size
  agree : ∀ k, k < W.heap.size → tag' k = tag k
  block : ∀ k, k < W.heap.size → ¬ S (tag k) → W'.heap[k]? = W.heap[k]?

/-- New blocks (from B on) belong to T. -/
def tg (tag : Nat → Nat) (B T : Nat) : Nat → Nat := fun k => if k < B then tag k else T

/-- The slice's block belongs to t. -/
def At (tag : Nat → Nat) (ao : Option Addr) (t : Nat) : Prop := ∀ a, ao = some a → tag a.block = t

namespace Step
variable {S S' : Nat → Prop} {W W' W'' : World} {tag tag' tag'' : Nat → Nat}
theorem refl : Step S W tag W tag := ⟨rfl, rfl, rfl, Nat.le_refl _, fun _ _ => rfl, fun _ _ _ => rfl⟩
theorem trans (h : Step S W tag W' tag') (h' : Step S W' tag' W'' tag'') : Step S W tag W'' tag'' :=
  ⟨h'.os.trans h.os, h'.tape.trans h.tape, h'.output.trans h.output, Nat.le_trans h.size h'.size, fun k hk => (h'.agree k (Nat.lt_of_lt_of_le hk h.size)).trans (h.agree k hk),
    fun k hk hS => (h'.block k (Nat.lt_of_lt_of_le hk h.size) (by rw [h.agree k hk]; exact hS)).trans (h.block k hk hS)⟩
theorem mono (h : Step S W tag W' tag') (hs : ∀ t, S t → S' t) : Step S' W tag W' tag' := ⟨h.os, h.tape, h.output, h.size, h.agree, fun k hk hS => h.block k hk fun x => hS (hs _ x)⟩
theorem alloc (o : Obj) (T : Nat) : Step S W tag (W.alloc o) (tg tag W.heap.size T) :=
  ⟨rfl, rfl, rfl, by simp, fun k hk => if_pos hk, fun k hk _ => blk_alloc_lt _ _ _ hk⟩
theorem setCell {p : Addr} (v : Value) (hp : S (tag p.block)) : Step S W tag (W.setCell p v) tag :=
  ⟨rfl, rfl, rfl, by simp, fun _ _ => rfl, fun k hk hS => blk_setCell_other _ _ _ _ fun e => hS (e ▸ hp)⟩
theorem grown {ao : Option Addr} (h : W.grownBy W' (blk ao)) {t : Nat} (ha : At tag ao t) (hS : S t) (T : Nat) : Step S W tag W' (tg tag W.heap.size T) :=
  ⟨h.os, h.tape, h.output, h.size, fun k hk => if_pos hk, fun k hk hS' => h.block k hk fun e => by
    cases ao with
    | none => cases e
    | some a => exact hS' (by have := Option.some.inj e; subst this; rw [ha a rfl]; exact hS)⟩
theorem grew (h : W.grownBy W' none) (T : Nat) : Step S W tag W' (tg tag W.heap.size T) :=
  ⟨h.os, h.tape, h.output, h.size, fun k hk => if_pos hk, fun k hk hS' => h.block k hk (by simp)⟩
theorem below (h : Below W.heap.size W W') (T : Nat) : Step S W tag W' (tg tag W.heap.size T) :=
  ⟨h.os, h.tape, h.output, h.size, fun k hk => if_pos hk, fun k hk hS' => h.block k hk⟩

/-- A row of an owner that is not written to. -/
theorem row (h : Step S W tag W' tag') {b e n t : Nat} {f : Nat → Value} (hr : W.rowIs b e n f) (ht : tag b = t) (hS : ¬ S t) : W'.rowIs b e n f := hr.of_block (h.block _ hr.lt (by rw [ht]; exact hS))
theorem own (h : Step S W tag W' tag') {e size n cap t : Nat} {ao : Option Addr} {f : Nat → Value} (hr : Own W e size ao n cap f) (ht : At tag ao t) (hS : ¬ S t) : Own W' e size ao n cap f :=
  hr.of_block fun a ha => h.block _ (hr.lt a ha) (by rw [ht a ha]; exact hS)
theorem at_ (h : Step S W tag W' tag') {e size n cap t : Nat} {ao : Option Addr} {f : Nat → Value} (hr : Own W e size ao n cap f) (ht : At tag ao t) : At tag' ao t := fun a ha => (h.agree _ (hr.lt a ha)).trans (ht a ha)
theorem tagOf (h : Step S W tag W' tag') {b t : Nat} (hb : b < W.heap.size) (ht : tag b = t) : tag' b = t := (h.agree _ hb).trans ht
end Step

theorem tg_new {tag : Nat → Nat} {B T k : Nat} (h : B ≤ k) : tg tag B T k = T := if_neg (by omega)
theorem tg_old {tag : Nat → Nat} {B T k : Nat} (h : k < B) : tg tag B T k = tag k := if_pos h

/-- The result of a call that hands back the old array or a new one. -/
theorem at_new {tag : Nat → Nat} {W : World} {ao ro : Option Addr} {t e size n cap : Nat} {f : Nat → Value} (ho : Own W e size ao n cap f) (ha : At tag ao t) (hn : ro = ao ∨ ∃ g, ro = some ⟨g, 0, none⟩ ∧ W.heap.size ≤ g) : At (tg tag W.heap.size t) ro t := by
  rcases hn with rfl | ⟨g, rfl, hg⟩
  · intro a h
    rw [tg_old (ho.lt a h)]
    exact ha a h
  · intro a h
    obtain rfl := Option.some.inj h
    exact tg_new hg

theorem Own.cap_le {w : World} {e size : Nat} {ao : Option Addr} {n cap : Nat} {f : Nat → Value} (h : Own w e size ao n cap f) : n ≤ cap ∧ cap ≤ 9223372036854775807 := by
  rcases h with ⟨_, rfl, rfl⟩ | ⟨g, cur, _, _, h3, h4, _⟩
  · exact ⟨Nat.le_refl _, by omega⟩
  · exact ⟨h3, by unfold maxLen at h4; omega⟩

/-- A table: a slice of m elements over a row of the owner t, every cell there. -/
def Tb (W : World) (tag : Nat → Nat) (t e size : Nat) (v : Value) : Prop := ∃ ao m cap f, v = .slice ao m cap ∧ Own W e size ao cap cap f ∧ At tag ao t
theorem Tb.step {S : Nat → Prop} {W W' : World} {tag tag' : Nat → Nat} {t e size : Nat} {v : Value} (h : Tb W tag t e size v) (hs : Step S W tag W' tag') (hS : ¬ S t) : Tb W' tag' t e size v := by
  obtain ⟨ao, m, cap, f, h1, h2, h3⟩ := h
  exact ⟨ao, m, cap, f, h1, hs.own h2 h3 hS, hs.at_ h2 h3⟩

/-- A table of n zero elements. -/
def Tz (W : World) (tag : Nat → Nat) (t e size : Nat) (zs : Array Value) (n : Nat) (v : Value) : Prop := ∃ ao cap, v = .slice ao n cap ∧ Own W e size ao n cap (zf size zs) ∧ At tag ao t
theorem Tz.step {S : Nat → Prop} {W W' : World} {tag tag' : Nat → Nat} {t e size n : Nat} {zs : Array Value} {v : Value} (h : Tz W tag t e size zs n v) (hs : Step S W tag W' tag') (hS : ¬ S t) : Tz W' tag' t e size zs n v := by
  obtain ⟨ao, cap, h1, h2, h3⟩ := h
  exact ⟨ao, cap, h1, hs.own h2 h3 hS, hs.at_ h2 h3⟩
end Go.Proofs.Ybulkdejs
