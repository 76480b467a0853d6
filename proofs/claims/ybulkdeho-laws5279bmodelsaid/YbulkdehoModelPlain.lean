/-
  PLAIN LAWS for seat b5279a: the plain re-statement of 'atMostReading' ('zzs5279bmodel'), and that it agrees on clocks with strictly ascending hosts.
-/
import Derived.Test.YbulkdehoPlain
namespace Go.Proofs.Ybulkdeho.Plain

/-- How many of the first k hosts lie below h. -/
def lessTo (HB : Nat → Int) (h : Int) : Nat → Nat
  | 0 => 0
  | k + 1 => if HB k < h then lessTo HB h k + 1 else lessTo HB h k

/-- The count at the last of the first k hosts that is h; 0 where none is. -/
def cntTo (HB CB : Nat → Int) (h : Int) : Nat → Int
  | 0 => 0
  | k + 1 => if HB k < h then cntTo HB CB h k else if HB k = h then CB k else cntTo HB CB h k

def mdlEnd (HA HB : Nat → Int) (na nb : Nat) : Nat := if 0 < na then lessTo HB (HA (na - 1)) nb else 0

def mdlGo (HA CA HB CB : Nat → Int) (na nb : Nat) : Nat → Nat → Bool × Nat
  | 0, _ => (true, na + mdlEnd HA HB na nb)
  | f + 1, i => if cntTo HB CB (HA i) nb < CA i then (false, i + lessTo HB (HA i) nb) else mdlGo HA CA HB CB na nb f (i + 1)

def mdl (HA CA HB CB : Nat → Int) (na nb : Nat) : Bool × Nat := mdlGo HA CA HB CB na nb na 0

theorem mdlGo_on {HA CA HB CB : Nat → Int} {na nb i : Nat} (hi : i < na) (hle : ¬ cntTo HB CB (HA i) nb < CA i) : mdlGo HA CA HB CB na nb (na - i) i = mdlGo HA CA HB CB na nb (na - (i + 1)) (i + 1) := by
  rw [show na - i = (na - (i + 1)) + 1 from by omega, mdlGo, if_neg hle]

theorem mdlGo_out {HA CA HB CB : Nat → Int} {na nb i : Nat} (hi : i < na) (hle : cntTo HB CB (HA i) nb < CA i) : mdlGo HA CA HB CB na nb (na - i) i = (false, i + lessTo HB (HA i) nb) := by
  rw [show na - i = (na - (i + 1)) + 1 from by omega, mdlGo, if_pos hle]

theorem mdlGo_end {HA CA HB CB : Nat → Int} {na nb i : Nat} (hi : ¬ i < na) : mdlGo HA CA HB CB na nb (na - i) i = (true, na + mdlEnd HA HB na nb) := by
  rw [show na - i = 0 from by omega, mdlGo]

theorem lessTo_le (HB : Nat → Int) (h : Int) : ∀ k, lessTo HB h k ≤ k := by
  intro k
  induction k with
  | zero => exact Nat.le_refl _
  | succ k ih => rw [lessTo]; split <;> omega

/-- In an ascending row those below h come first. -/
theorem lessTo_split {HB : Nat → Int} {nb : Nat} (asc : ∀ i j, i < j → j < nb → HB i < HB j) (h : Int) : ∀ k, k ≤ nb → (∀ t, t < lessTo HB h k → HB t < h) ∧ (∀ t, lessTo HB h k ≤ t → t < k → h ≤ HB t) := by
  intro k
  induction k with
  | zero => intro _; exact ⟨fun t ht => absurd ht (Nat.not_lt_zero _), fun t _ ht => absurd ht (Nat.not_lt_zero _)⟩
  | succ k ih =>
    intro hk
    obtain ⟨h1, h2⟩ := ih (by omega)
    have hle := lessTo_le HB h k
    rw [lessTo]
    by_cases c : HB k < h
    · rw [if_pos c]
      have e : lessTo HB h k = k := by
        by_cases e : lessTo HB h k = k
        · exact e
        · have a := h2 (lessTo HB h k) (Nat.le_refl _) (by omega)
          have b := asc (lessTo HB h k) k (by omega) (by omega)
          omega
      refine ⟨fun t ht => ?_, fun t h3 h4 => by omega⟩
      by_cases et : t = k
      · rw [et]; exact c
      · exact h1 t (by omega)
    · rw [if_neg c]
      refine ⟨h1, fun t h3 h4 => ?_⟩
      by_cases et : t = k
      · rw [et]; omega
      · exact h2 t h3 (by omega)

theorem cntTo_none {HB CB : Nat → Int} {h : Int} : ∀ k, (∀ t, t < k → HB t ≠ h) → cntTo HB CB h k = 0 := by
  intro k
  induction k with
  | zero => intro _; rfl
  | succ k ih =>
    intro hn
    rw [cntTo, if_neg (hn k (by omega)), ih (fun t ht => hn t (by omega))]
    split <;> rfl

theorem cntTo_one {HB CB : Nat → Int} {h : Int} {j : Nat} (e : HB j = h) : ∀ k, j < k → (∀ t, j < t → t < k → h < HB t) → cntTo HB CB h k = CB j := by
  intro k
  induction k with
  | zero => intro hj; exact absurd hj (Nat.not_lt_zero _)
  | succ k ih =>
    intro hj hn
    by_cases c : j = k
    · subst c
      rw [cntTo, if_neg (by omega), if_pos e]
    · have := hn k (by omega) (by omega)
      rw [cntTo, if_neg (by omega), if_neg (by omega), ih (by omega) (fun t h1 h2 => hn t h1 (by omega))]

theorem cnt_same {HB CB : Nat → Int} {nb : Nat} (asc : ∀ i j, i < j → j < nb → HB i < HB j) (h : Int) : cntAt HB CB nb h (lessTo HB h nb) = cntTo HB CB h nb := by
  obtain ⟨h1, h2⟩ := lessTo_split asc h nb (Nat.le_refl _)
  unfold cntAt
  by_cases c : lessTo HB h nb < nb ∧ HB (lessTo HB h nb) = h
  · rw [if_pos c, cntTo_one c.2 nb c.1]
    intro t h3 h4
    have := asc _ t h3 h4
    omega
  · rw [if_neg c, cntTo_none]
    intro t ht e
    by_cases c1 : t < lessTo HB h nb
    · have := h1 t c1; omega
    · by_cases c2 : t = lessTo HB h nb
      · exact c ⟨by omega, by rw [← c2]; exact e⟩
      · have a := asc (lessTo HB h nb) t (by omega) ht
        have b := h2 (lessTo HB h nb) (Nat.le_refl _) (by omega)
        omega

/-- How many of b have been passed when entry i of a comes up. -/
def passed (HA HB : Nat → Int) (nb i : Nat) : Nat := if i = 0 then 0 else lessTo HB (HA (i - 1)) nb

theorem skip_same {HA HB : Nat → Int} {na nb i : Nat} (ascA : ∀ i j, i < j → j < na → HA i < HA j) (asc : ∀ i j, i < j → j < nb → HB i < HB j) (hi : i < na) :
    skipTo HB nb (HA i) (nb - passed HA HB nb i) (passed HA HB nb i) = lessTo HB (HA i) nb := by
  obtain ⟨h1, h2⟩ := lessTo_split asc (HA i) nb (Nat.le_refl _)
  have hle := lessTo_le HB (HA i) nb
  refine skipTo_at _ (fun h => ?_) hle _ _ ?_ (by omega) (fun t _ ht => h1 t ht)
  · have := h2 _ (Nat.le_refl _) h.1; omega
  · unfold passed
    split
    · exact Nat.zero_le _
    · obtain ⟨g1, g2⟩ := lessTo_split asc (HA (i - 1)) nb (Nat.le_refl _)
      have gle := lessTo_le HB (HA (i - 1)) nb
      by_cases c : lessTo HB (HA (i - 1)) nb ≤ lessTo HB (HA i) nb
      · exact c
      · have a := g1 (lessTo HB (HA i) nb) (by omega)
        have b := h2 (lessTo HB (HA i) nb) (Nat.le_refl _) (by omega)
        have d := ascA (i - 1) i (by omega) hi
        omega

theorem go_same {HA CA HB CB : Nat → Int} {na nb : Nat} (ascA : ∀ i j, i < j → j < na → HA i < HA j) (asc : ∀ i j, i < j → j < nb → HB i < HB j) :
    ∀ f i, i + f = na → amrGo HA CA HB CB na nb f i (passed HA HB nb i) = mdlGo HA CA HB CB na nb f i := by
  intro f
  induction f with
  | zero =>
    intro i hi
    rw [amrGo, mdlGo]
    unfold passed mdlEnd
    have e : i = na := by omega
    subst e
    by_cases c : i = 0
    · rw [if_pos c, if_neg (by omega)]
    · rw [if_neg c, if_pos (by omega)]
  | succ f ih =>
    intro i hi
    have hs := skip_same ascA asc (show i < na by omega)
    have hn := ih (i + 1) (by omega)
    rw [amrGo, mdlGo, hs, cnt_same asc]
    split
    · rfl
    · rw [← hn]
      rfl

theorem amr_same {HA CA HB CB : Nat → Int} {na nb : Nat} (ascA : ∀ i j, i < j → j < na → HA i < HA j) (asc : ∀ i j, i < j → j < nb → HB i < HB j) : mdl HA CA HB CB na nb = amr HA CA HB CB na nb :=
  (go_same ascA asc na 0 (by omega)).symm

/-! ### The hosts that are built -/
/-- The host ahead of step k. -/
def acc (G : Nat → Int) : Nat → Int
  | 0 => 0
  | k + 1 => acc G k + (1 + G k % 4)

theorem acc_bounds (G : Nat → Int) : ∀ k : Nat, 0 ≤ acc G k ∧ acc G k ≤ 4 * k := by
  intro k
  induction k with
  | zero => exact ⟨Int.le_refl _, Int.le_refl _⟩
  | succ k ih => rw [acc]; omega

theorem acc_up (G : Nat → Int) (i : Nat) : ∀ d, acc G i < acc G (i + (d + 1)) := by
  intro d
  induction d with
  | zero => show acc G i < acc G i + (1 + G i % 4); omega
  | succ d ih =>
    have : acc G (i + (d + 1 + 1)) = acc G (i + (d + 1)) + (1 + G (i + (d + 1)) % 4) := rfl
    omega

theorem acc_asc (G : Nat → Int) (n : Nat) : ∀ i j, i < j → j < n → acc G (i + 1) < acc G (j + 1) := by
  intro i j h _
  have := acc_up G (i + 1) (j - i - 1)
  rwa [show i + 1 + (j - i - 1 + 1) = j + 1 from by omega] at this

end Go.Proofs.Ybulkdeho.Plain
