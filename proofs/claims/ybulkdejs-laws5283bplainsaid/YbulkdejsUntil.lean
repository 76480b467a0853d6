/-
  A LAW ON REGIONS THAT DRAW THEIR ORDER: a load may be taken first where its cell is as it was UNTIL operation number m (a store that waits for the load) has come up. Behind m nothing is asked of the world.
-/
import Derived.Test.YbulkdejsTimes
import Derived.Deep.CutRange
import Derived.Deep.RegionWith
import Derived.Deep.RegionHeld3
namespace Go.Proofs.Ybulkdejs
open Go.RowKit Go.Deep
set_option linter.unusedVariables false
set_option linter.unusedSimpArgs false

section
variable {P : Program} {ops : Array Oper} {Q : Exit → Act → World → Prop} {md : Region.Mode} {S : World → Prop} {m : Nat}

/-- Whatever order is picked from here on; S holds behind every operation till number m has come up. -/
def Until (P : Program) (md : Region.Mode) (ops : Array Oper) (Q : Exit → Act → World → Prop) (S : World → Prop) (m : Nat) : Nat → Array Bool → Act → World → Prop
  | 0, listed, a, w => Region.ready md ops listed = [] ∧ Q .normal a w
  | fuel + 1, listed, a, w =>
    (Region.ready md ops listed = [] → Q .normal a w) ∧
    ∀ i ∈ Region.ready md ops listed, wpOp P ops Q i (fun a' w' => ((listed.setIfInBounds i true).getD m true = false → S w') ∧ Until P md ops Q S m fuel (listed.setIfInBounds i true) a' w') a w

theorem Until.any : ∀ (fuel : Nat) (listed : Array Bool) (a : Act) (w : World), Until P md ops Q S m fuel listed a w → wpAny P md ops Q fuel listed a w
  | 0, _, _, _, h => h
  | fuel + 1, _, _, _, h => ⟨h.1, fun i hi => wpOp_mono (fun a' w' h' => Until.any fuel _ a' w' h'.2) (h.2 i hi)⟩

theorem Until.first {i : Nat} {oi om : Oper} {v : Value} (hi : ops[i]? = some oi) (hsel : ∀ (j : Nat) (o : Oper) cs b, ops[j]? = some o → o.op ≠ .select cs b)
    (hQ : ∀ c a w, Q (.panic c) (a.put oi.dst v) w → Q (.panic c) a w) (hm : ops[m]? = some om) (hmi : ∃ e ∈ om.after, Region.binds md e = true ∧ e.on = i) :
    ∀ (fuel : Nat) (listed : Array Bool) (a : Act) (w : World),
      (∀ j oj, ops[j]? = some oj → j ≠ i → listed.getD j true = false → (∀ e ∈ oj.after, Region.binds md e = true → e.on ≠ i) → oi.apart ops oj = true) →
      i ∈ Region.ready md ops listed → listed.getD m true = false → YieldsIf P ops S oi v a → S w →
      Until P md ops Q S m fuel (listed.setIfInBounds i true) (a.put oi.dst v) w → Until P md ops Q S m (fuel + 1) listed a w := by
  intro fuel
  induction fuel with
  | zero =>
    intro listed a w _ hr hl hy hS H
    refine ⟨fun h => (by rw [h] at hr; cases hr), fun j hj => ?_⟩
    by_cases hji : j = i
    · subst hji; exact hy.wpOp hi hS ⟨fun _ => hS, H⟩
    · have := ready_mono hj hji
      rw [H.1] at this
      cases this
  | succ fuel ih =>
    intro listed a w hfree hr hl hy hS H
    refine ⟨fun h => (by rw [h] at hr; cases hr), fun j hj => ?_⟩
    by_cases hji : j = i
    · subst hji; exact hy.wpOp hi hS ⟨fun _ => hS, H⟩
    · have h1 := H.2 j (ready_mono hj hji)
      obtain ⟨hjun, oj, hoj, hall⟩ := mem_ready.1 hj
      have hnot : ∀ e ∈ oj.after, Region.binds md e = true → e.on ≠ i := fun e he hb heq => by
        have h1 := hall e he hb
        have h0 := (mem_ready.1 hr).1
        rw [heq] at h1
        rcases Nat.lt_or_ge i listed.size with h' | h'
        · simp [h'] at h0 h1; rw [h0] at h1; cases h1
        · simp [Array.getElem?_eq_none h'] at h1
      have hjm : j ≠ m := by
        rintro rfl
        obtain ⟨e, he, hb, heq⟩ := hmi
        rw [hm] at hoj
        obtain rfl := Option.some.inj hoj
        exact hnot e he hb heq
      have hl' : (listed.setIfInBounds j true).getD m true = false := by rw [getD_set_ne true hjm]; exact hl
      have him : i ≠ m := by
        rintro rfl
        obtain ⟨e, he, hb, heq⟩ := hmi
        obtain ⟨hu, oi', hoi, hall'⟩ := mem_ready.1 hr
        rw [hm] at hoi
        obtain rfl := Option.some.inj hoi
        have h1 := hall' e he hb
        rw [heq] at h1
        rcases Nat.lt_or_ge i listed.size with h' | h'
        · simp [h'] at hu h1; rw [hu] at h1; cases h1
        · simp [Array.getElem?_eq_none h'] at h1
      have hl'' : ((listed.setIfInBounds i true).setIfInBounds j true).getD m true = false := by rw [getD_set_ne true hjm, getD_set_ne true him]; exact hl
      have h2 := wpOp_putIf hoj (hfree j oj hoj hji hjun hnot) (fun cs b => hsel i oi cs b hi) (fun cs b => hsel j oj cs b hoj) hQ hy h1
      have hfree' : ∀ k ok, ops[k]? = some ok → k ≠ i → (listed.setIfInBounds j true).getD k true = false →
          (∀ e ∈ ok.after, Region.binds md e = true → e.on ≠ i) → oi.apart ops ok = true := fun k ok hk hki hun hno => by
        refine hfree k ok hk hki ?_ hno
        by_cases hjk : j = k
        · subst hjk; exact hjun
        · rw [getD_set_ne true hjk] at hun; exact hun
      refine wpOp_mono (fun a' w' h3 => ⟨fun _ => h3.2.1 hl'', ih (listed.setIfInBounds j true) a' w' hfree' (ready_mono hr (Ne.symm hji)) hl' h3.1 (h3.2.1 hl'') ?_⟩) h2
      rw [Array.setIfInBounds_comm _ _ hji]
      exact h3.2.2

/-- Does operation m wait for operation i? -/
def waitsFor (md : Region.Mode) (ops : Array Oper) (m i : Nat) : Bool := match ops[m]? with
  | none => false
  | some om => om.after.any fun e => Region.binds md e && e.on == i

/-- Take number i first. -/
theorem Until.take {i : Nat} {oi : Oper} {v : Value} {fuel : Nat} {listed : Array Bool} {a : Act} {w : World} (hi : ops[i]? = some oi)
    (hs : Region.noSelect ops = true) (hf : Region.free md ops listed i = true) (hr : (Region.ready md ops listed).contains i = true) (hw : waitsFor md ops m i = true) (hl : listed.getD m true = false)
    (hQ : ∀ c a w, Q (.panic c) (a.put oi.dst v) w → Q (.panic c) a w) (hy : YieldsIf P ops S oi v a) (hS : S w)
    (h : Until P md ops Q S m fuel (listed.setIfInBounds i true) (a.put oi.dst v) w) : Until P md ops Q S m (fuel + 1) listed a w := by
  unfold waitsFor at hw
  cases hm : ops[m]? with
  | none => rw [hm] at hw; cases hw
  | some om =>
    rw [hm] at hw
    simp only [Array.any_eq_true'] at hw
    obtain ⟨e, he, hb⟩ := hw
    simp only [Bool.and_eq_true, beq_iff_eq] at hb
    exact Until.first hi (Region.noSelect_spec hs) hQ hm ⟨e, he, hb.1, hb.2⟩ fuel listed a w (Region.free_spec hi hf) (by simpa using hr) hl hy hS h

/-- An operation that yields in whatever world may be taken first at any time. -/
theorem Until.firstW {i : Nat} {oi : Oper} {v : Value} (hi : ops[i]? = some oi) (hsel : ∀ (j : Nat) (o : Oper) cs b, ops[j]? = some o → o.op ≠ .select cs b)
    (hQ : ∀ c a w, Q (.panic c) (a.put oi.dst v) w → Q (.panic c) a w) (him : i ≠ m) :
    ∀ (fuel : Nat) (listed : Array Bool) (a : Act) (w : World),
      (∀ j oj, ops[j]? = some oj → j ≠ i → listed.getD j true = false → (∀ e ∈ oj.after, Region.binds md e = true → e.on ≠ i) → oi.apart ops oj = true) →
      i ∈ Region.ready md ops listed → YieldsIf P ops (fun _ => True) oi v a → (listed.getD m true = false → S w) →
      Until P md ops Q S m fuel (listed.setIfInBounds i true) (a.put oi.dst v) w → Until P md ops Q S m (fuel + 1) listed a w := by
  intro fuel
  induction fuel with
  | zero =>
    intro listed a w _ hr hy hS H
    refine ⟨fun h => (by rw [h] at hr; cases hr), fun j hj => ?_⟩
    by_cases hji : j = i
    · subst hji; exact hy.wpOp hi trivial ⟨fun x => hS (by rw [getD_set_ne true him] at x; exact x), H⟩
    · have := ready_mono hj hji
      rw [H.1] at this
      cases this
  | succ fuel ih =>
    intro listed a w hfree hr hy hS H
    refine ⟨fun h => (by rw [h] at hr; cases hr), fun j hj => ?_⟩
    by_cases hji : j = i
    · subst hji; exact hy.wpOp hi trivial ⟨fun x => hS (by rw [getD_set_ne true him] at x; exact x), H⟩
    · have h1 := H.2 j (ready_mono hj hji)
      obtain ⟨hjun, oj, hoj, hall⟩ := mem_ready.1 hj
      have hnot : ∀ e ∈ oj.after, Region.binds md e = true → e.on ≠ i := fun e he hb heq => by
        have h1 := hall e he hb
        have h0 := (mem_ready.1 hr).1
        rw [heq] at h1
        rcases Nat.lt_or_ge i listed.size with h' | h'
        · simp [h'] at h0 h1; rw [h0] at h1; cases h1
        · simp [Array.getElem?_eq_none h'] at h1
      have h2 := wpOp_putIf hoj (hfree j oj hoj hji hjun hnot) (fun cs b => hsel i oi cs b hi) (fun cs b => hsel j oj cs b hoj) hQ hy h1
      have hfree' : ∀ k ok, ops[k]? = some ok → k ≠ i → (listed.setIfInBounds j true).getD k true = false →
          (∀ e ∈ ok.after, Region.binds md e = true → e.on ≠ i) → oi.apart ops ok = true := fun k ok hk hki hun hno => by
        refine hfree k ok hk hki ?_ hno
        by_cases hjk : j = k
        · subst hjk; exact hjun
        · rw [getD_set_ne true hjk] at hun; exact hun
      have hc := Array.setIfInBounds_comm (xs := listed) true true hji
      refine wpOp_mono (fun a' w' h3 => ?_) h2
      have hS' : (listed.setIfInBounds j true).getD m true = false → S w' := fun x => h3.2.1 (by rw [← hc, getD_set_ne true him]; exact x)
      refine ⟨hS', ih (listed.setIfInBounds j true) a' w' hfree' (ready_mono hr (Ne.symm hji)) h3.1 hS' ?_⟩
      rw [hc]
      exact h3.2.2

theorem Until.takeW {i : Nat} {oi : Oper} {v : Value} {fuel : Nat} {listed : Array Bool} {a : Act} {w : World} (hi : ops[i]? = some oi)
    (hs : Region.noSelect ops = true) (hf : Region.free md ops listed i = true) (hr : (Region.ready md ops listed).contains i = true) (him : (i == m) = false)
    (hQ : ∀ c a w, Q (.panic c) (a.put oi.dst v) w → Q (.panic c) a w) (hy : Yields P ops oi v a) (hS : listed.getD m true = false → S w)
    (h : Until P md ops Q S m fuel (listed.setIfInBounds i true) (a.put oi.dst v) w) : Until P md ops Q S m (fuel + 1) listed a w :=
  Until.firstW hi (Region.noSelect_spec hs) hQ (by simpa using him) fuel listed a w (Region.free_spec hi hf) (by simpa using hr) hy.yieldsIf hS h

theorem put_some {o : Oper} {d : Nat} {v : Value} {a : Act} (hd : o.dst = some d) : a.put o.dst v = { a with tmps := a.tmps.setIfInBounds d v } := by rw [hd]; rfl

theorem Until.takeD {i : Nat} {oi : Oper} {v : Value} {fuel : Nat} {listed : Array Bool} {a : Act} {w : World} (d : Nat) (hi : ops[i]? = some oi) (hd : oi.dst = some d)
    (hs : Region.noSelect ops = true) (hf : Region.free md ops listed i = true) (hr : (Region.ready md ops listed).contains i = true) (hw : waitsFor md ops m i = true) (hl : listed.getD m true = false)
    (hQ : ∀ c a w, Q (.panic c) (a.put oi.dst v) w → Q (.panic c) a w) (hy : YieldsIf P ops S oi v a) (hS : S w)
    (h : Until P md ops Q S m fuel (listed.setIfInBounds i true) { a with tmps := a.tmps.setIfInBounds d v } w) : Until P md ops Q S m (fuel + 1) listed a w :=
  Until.take hi hs hf hr hw hl hQ hy hS (by rw [put_some hd]; exact h)

theorem Until.takeWD {i : Nat} {oi : Oper} {v : Value} {fuel : Nat} {listed : Array Bool} {a : Act} {w : World} (d : Nat) (hi : ops[i]? = some oi) (hd : oi.dst = some d)
    (hs : Region.noSelect ops = true) (hf : Region.free md ops listed i = true) (hr : (Region.ready md ops listed).contains i = true) (him : (i == m) = false)
    (hQ : ∀ c a w, Q (.panic c) (a.put oi.dst v) w → Q (.panic c) a w) (hy : Yields P ops oi v a) (hS : listed.getD m true = false → S w)
    (h : Until P md ops Q S m fuel (listed.setIfInBounds i true) { a with tmps := a.tmps.setIfInBounds d v } w) : Until P md ops Q S m (fuel + 1) listed a w :=
  Until.takeW hi hs hf hr him hQ hy hS (by rw [put_some hd]; exact h)

/-- One alone can come up. -/
theorem Until.one {i : Nat} {o : Oper} {fuel : Nat} {listed : Array Bool} {a : Act} {w : World} (hr : Region.ready md ops listed = [i]) (ho : ops[i]? = some o)
    (h : ∀ K' : Act → World → Prop, Shut (∀ a' w', ((listed.setIfInBounds i true).getD m true = false → S w') → Until P md ops Q S m fuel (listed.setIfInBounds i true) a' w' → K' a' w') → if Region.wanted o (yielded ops a.tmps) = true then Oper.wp P o a w K' Q else K' (a.put o.dst undef) w) :
    Until P md ops Q S m (fuel + 1) listed a w := by
  refine ⟨fun h0 => (by rw [hr] at h0; cases h0), fun j hj => ?_⟩
  rw [hr] at hj
  obtain rfl : j = i := by simpa using hj
  exact wpOp_step ho (fun K' hK => h K' (fun a w hS hW => hK a w ⟨hS, hW⟩))

/-- From m on: any order, nothing asked. -/
theorem Until.past : ∀ {fuel : Nat} {listed : Array Bool} {a : Act} {w : World}, listed.getD m true = true → wpAny P md ops Q fuel listed a w → Until P md ops Q S m fuel listed a w
  | 0, _, _, _, _, h => h
  | fuel + 1, listed, a, w, hl, h => ⟨h.1, fun i hi => wpOp_mono (fun a' w' h' => by
      have hl' : (listed.setIfInBounds i true).getD m true = true := by
        by_cases e : i = m
        · subst e; simp [Array.getD]
        · rw [getD_set_ne true e]; exact hl
      exact ⟨fun x => (by rw [hl'] at x; cases x), Until.past hl' h'⟩) (h.2 i hi)⟩

/-- All have come up. -/
theorem Until.done {listed : Array Bool} {a : Act} {w : World} (hr : Region.ready md ops listed = []) (h : Q .normal a w) : ∀ fuel, Until P md ops Q S m fuel listed a w
  | 0 => ⟨hr, h⟩
  | _ + 1 => ⟨fun _ => h, by rw [hr]; simp⟩

/-- The beginning. -/
theorem Until.begin {id : Nat} {a : Act} {w : World} (hm : P.follows .mixedOrders = true) (S : World → Prop) (m : Nat)
    (h : Until P .any ops Q S m ops.size (Array.replicate ops.size false) a w.drew) : (Code.region id ops true).wp P Q a w :=
  wp_region_any hm (Until.any _ _ _ _ h)
end
end Go.Proofs.Ybulkdejs
