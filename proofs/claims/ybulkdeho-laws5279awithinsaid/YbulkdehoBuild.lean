/-
  PLAIN LAWS for seat b5279a: a tally turned into a Fenwick tree in place, node by node.
-/
import Derived.Test.YbulkdehoFen
namespace Go.Proofs.Ybulkdeho.Plain

theorem child_all : ((List.range 512).all fun i => decide (0 < i → i + lb i < 512 → ((i + lb i) - lb (i + lb i) = i - lb i ∨ (0 < i - lb i ∧ (i - lb i) + lb (i - lb i) = i + lb i)))) = true := by decide +kernel
/-- The node ahead of i under the same parent: it is where the parent begins, or it is the child before i. -/
theorem child_before {i : Nat} (h0 : 0 < i) (h : i + lb i < 512) : (i + lb i) - lb (i + lb i) = i - lb i ∨ (0 < i - lb i ∧ (i - lb i) + lb (i - lb i) = i + lb i) :=
  of_decide_eq_true (List.all_eq_true.1 child_all i (List.mem_range.2 (by omega))) h0 h

theorem child_le {g i : Nat} (h0 : 0 < g) (h1 : g < i) (e : g + lb g = i + lb i) (h : i < 512) : g ≤ i - lb i := by
  have hl := lb_pos (n := i) (by omega) h
  rcases lb_cases h0 (by omega) with a | a | a | a | a | a | a | a | a <;> rcases lb_cases (n := i) (by omega) h with b | b | b | b | b | b | b | b | b <;> omega

theorem lb_pred {k : Nat} (h0 : 0 < k) (h : k < 512) : lb k = 1 ∨ (0 < k - 1 ∧ (k - 1) + lb (k - 1) = k) := by
  rcases lb_cases h0 h with a | a | a | a | a | a | a | a | a
  · exact .inl a.1
  all_goals
    refine .inr ⟨by omega, ?_⟩
    rcases lb_cases (n := k - 1) (by omega) (by omega) with b | b | b | b | b | b | b | b | b <;> omega

/-- What node k holds while node i is about to be handed up: all of its own span below g, and its own place. -/
def Mid (M : Nat → Int) (i k : Nat) (v : Int) : Prop :=
  ∃ g, v = M (k - 1) + (sm M g - sm M (k - lb k)) ∧ (g = k - lb k ∨ (0 < g ∧ g + lb g = k ∧ g < i)) ∧ g < k ∧ k - lb k ≤ g ∧ ∀ c, 0 < c → c + lb c = k → c < i → c ≤ g

/-- The array while node i is about to be handed up. -/
def Built (M : Nat → Int) (sz i : Nat) (A : Nat → Int) : Prop := ∀ k, k ≤ sz → (k < i → A k = tr true M k) ∧ (i ≤ k → Mid M i k (A k))

theorem built_start (M : Nat → Int) (sz : Nat) (hs : sz < 512) : Built M sz 1 (tr false M) := by
  intro k hk
  refine ⟨fun h => ?_, fun h => ?_⟩
  · rw [show k = 0 from by omega, tr_zero, tr_zero]
  · have hl := lb_pos (n := k) (by omega) (by omega)
    refine ⟨k - lb k, ?_, .inl rfl, by omega, Nat.le_refl _, fun c h1 _ h2 => by omega⟩
    simp only [tr, Bool.false_eq_true, if_false]
    rw [if_neg (by omega)]
    omega

theorem sm_last (M : Nat → Int) {k : Nat} (h : 0 < k) : sm M k = sm M (k - 1) + M (k - 1) := by
  obtain ⟨j, rfl⟩ : ∃ j, k = j + 1 := ⟨k - 1, by omega⟩
  rfl

/-- Node i is whole when its turn comes. -/
theorem built_at {M : Nat → Int} {sz i : Nat} {A : Nat → Int} (h : Built M sz i A) (h0 : 0 < i) (hi : i ≤ sz) (hs : sz < 512) : A i = tr true M i := by
  obtain ⟨g, hv, hg, hgk, hle, hc⟩ := (h i hi).2 (Nat.le_refl _)
  have hg1 : g = i - 1 := by
    rcases lb_pred h0 (by omega) with h1 | ⟨h1, h2⟩
    · omega
    · have := hc (i - 1) h1 h2 (by omega)
      omega
  subst hg1
  rw [hv]
  have := sm_last M h0
  simp [tr]
  omega

/-- The parent takes node i's count. -/
theorem built_up {M : Nat → Int} {sz i : Nat} {A : Nat → Int} (h : Built M sz i A) (h0 : 0 < i) (hs : sz < 512) (hu : i + lb i ≤ sz) :
    Built M sz (i + 1) (fun k => if k = i + lb i then A (i + lb i) + A i else A k) := by
  have hl := lb_pos (n := i) h0 (by omega)
  have hAi := built_at h h0 (by omega) hs
  intro k hk
  have hk' := h k hk
  refine ⟨fun hlt => ?_, fun hge => ?_⟩
  · show (if k = i + lb i then A (i + lb i) + A i else A k) = _
    rw [if_neg (by omega)]
    by_cases e : k = i
    · rw [e]; exact hAi
    · exact hk'.1 (by omega)
  · show Mid M (i + 1) k (if k = i + lb i then A (i + lb i) + A i else A k)
    obtain ⟨g, hv, hg, hgk, hle, hc⟩ := hk'.2 (by omega)
    by_cases e : k = i + lb i
    · subst e
      rw [if_pos rfl]
      have hup := lb_up h0 (show i + lb i < 512 by omega)
      have hg1 : g = i - lb i := by
        rcases child_before h0 (show i + lb i < 512 by omega) with h1 | ⟨h1, h2⟩
        · rcases hg with hg | ⟨g0, g1, g2⟩
          · omega
          · have := child_le g0 g2 g1 (by omega)
            omega
        · have h3 := hc (i - lb i) h1 h2 (by omega)
          rcases hg with hg | ⟨g0, g1, g2⟩
          · omega
          · have := child_le g0 g2 g1 (by omega)
            omega
      refine ⟨i, ?_, .inr ⟨h0, rfl, by omega⟩, by omega, by omega, fun c _ _ h2 => by omega⟩
      rw [hv, hAi, hg1]
      simp [tr]
      omega
    · rw [if_neg e]
      refine ⟨g, hv, ?_, hgk, hle, fun c h1 h2 h3 => ?_⟩
      · rcases hg with hg | ⟨g0, g1, g2⟩
        · exact .inl hg
        · exact .inr ⟨g0, g1, by omega⟩
      · by_cases ec : c = i
        · subst ec; omega
        · exact hc c h1 h2 (by omega)

/-- No parent within the tree. -/
theorem built_same {M : Nat → Int} {sz i : Nat} {A : Nat → Int} (h : Built M sz i A) (h0 : 0 < i) (hi : i ≤ sz) (hs : sz < 512) (hu : sz < i + lb i) : Built M sz (i + 1) A := by
  have hAi := built_at h h0 hi hs
  intro k hk
  have hk' := h k hk
  refine ⟨fun hlt => ?_, fun hge => ?_⟩
  · by_cases e : k = i
    · rw [e]; exact hAi
    · exact hk'.1 (by omega)
  · obtain ⟨g, hv, hg, hgk, hle, hc⟩ := hk'.2 (by omega)
    refine ⟨g, hv, ?_, hgk, hle, fun c h1 h2 h3 => ?_⟩
    · rcases hg with hg | ⟨g0, g1, g2⟩
      · exact .inl hg
      · exact .inr ⟨g0, g1, by omega⟩
    · by_cases ec : c = i
      · subst ec; omega
      · exact hc c h1 h2 (by omega)

theorem built_end {M : Nat → Int} {sz : Nat} {A : Nat → Int} (h : Built M sz (sz + 1) A) {k : Nat} (hk : k ≤ sz) : A k = tr true M k := (h k hk).1 (by omega)

/-- Nothing in the array outgrows the number of adds. -/
theorem built_bounds {M : Nat → Int} {sz i : Nat} {A : Nat → Int} {adds top : Int} (hb : Book sz M adds top) (h : Built M sz i A) {k : Nat} (hk : k ≤ sz) (h0 : 0 < k) : 0 ≤ A k ∧ A k ≤ adds := by
  by_cases hlt : k < i
  · rw [(h k hk).1 hlt]; exact hb.tr true hk
  · obtain ⟨g, hv, hg, hgk, hle, _⟩ := (h k hk).2 (by omega)
    have h1 := sm_last M h0
    have h2 := hb.nn (k - 1)
    have h3 := sm_le hb.nn hle
    have h4 := sm_le hb.nn (show g ≤ k - 1 by omega)
    have h5 := sm_nn hb.nn (k - lb k)
    have h6 := hb.le hk
    rw [hv]
    omega

end Go.Proofs.Ybulkdeho.Plain
