/-
  PLAIN LAWS for seat b5279a, no Go in sight: 'atMostReading' as a function of hosts and counts by index.
-/
namespace Go.Proofs.Ybulkdeho.Plain

/-- The inner loop: step j on while clock b has an entry there whose host is below h. -/
def skipTo (HB : Nat → Int) (nb : Nat) (h : Int) : Nat → Nat → Nat
  | 0, j => j
  | f + 1, j => if j < nb ∧ HB j < h then skipTo HB nb h f (j + 1) else j

/-- b's count for host h, read at j. -/
def cntAt (HB CB : Nat → Int) (nb : Nat) (h : Int) (j : Nat) : Int := if j < nb ∧ HB j = h then CB j else 0

/-- The outer loop from entry i of clock a on, with j entries of b passed. -/
def amrGo (HA CA HB CB : Nat → Int) (na nb : Nat) : Nat → Nat → Nat → Bool × Nat
  | 0, _, j => (true, na + j)
  | f + 1, i, j => if cntAt HB CB nb (HA i) (skipTo HB nb (HA i) (nb - j) j) < CA i then (false, i + skipTo HB nb (HA i) (nb - j) j)
      else amrGo HA CA HB CB na nb f (i + 1) (skipTo HB nb (HA i) (nb - j) j)

def amr (HA CA HB CB : Nat → Int) (na nb : Nat) : Bool × Nat := amrGo HA CA HB CB na nb na 0 0

theorem skipTo_stop {HB : Nat → Int} {nb : Nat} {h : Int} (f j : Nat) (hs : ¬ (j < nb ∧ HB j < h)) : skipTo HB nb h f j = j := by
  cases f with
  | zero => rfl
  | succ f => simp [skipTo, hs]

/-- Where the inner loop stops: from j, all between lie below h, and it cannot go on at j2. -/
theorem skipTo_at {HB : Nat → Int} {nb : Nat} {h : Int} (j2 : Nat) (hs : ¬ (j2 < nb ∧ HB j2 < h)) (hle : j2 ≤ nb) :
    ∀ (f j : Nat), j ≤ j2 → j2 ≤ j + f → (∀ t, j ≤ t → t < j2 → HB t < h) → skipTo HB nb h f j = j2 := by
  intro f
  induction f with
  | zero => intro j h1 h2 _; simp [skipTo]; omega
  | succ f ih =>
    intro j h1 h2 hb
    by_cases e : j = j2
    · subst e; exact skipTo_stop _ _ hs
    · have : j < nb ∧ HB j < h := ⟨by omega, hb j (Nat.le_refl _) (by omega)⟩
      rw [skipTo, if_pos this]
      exact ih (j + 1) (by omega) (by omega) (fun t h3 h4 => hb t (by omega) h4)

theorem skipTo_le {HB : Nat → Int} {nb : Nat} {h : Int} : ∀ (f j : Nat), j ≤ nb → j ≤ skipTo HB nb h f j ∧ skipTo HB nb h f j ≤ nb := by
  intro f
  induction f with
  | zero => intro j hj; simp [skipTo]; exact hj
  | succ f ih =>
    intro j hj
    rw [skipTo]
    split
    · rename_i hc
      have := ih (j + 1) (by omega)
      omega
    · omega

/-- The bounds of the answer. -/
theorem amrGo_bounds (HA CA HB CB : Nat → Int) (na nb : Nat) : ∀ (f i j : Nat), i + f = na → j ≤ nb →
    (amrGo HA CA HB CB na nb f i j).2 ≤ na + nb ∧ ((amrGo HA CA HB CB na nb f i j).1 = true → na ≤ (amrGo HA CA HB CB na nb f i j).2) ∧ ((amrGo HA CA HB CB na nb f i j).1 = false → f ≠ 0) := by
  intro f
  induction f with
  | zero => intro i j _ hj; simp [amrGo]; omega
  | succ f ih =>
    intro i j hi hj
    have hs := skipTo_le (HB := HB) (nb := nb) (h := HA i) (nb - j) j hj
    rw [amrGo]
    split
    · simp; omega
    · have := ih (i + 1) (skipTo HB nb (HA i) (nb - j) j) (by omega) hs.2
      refine ⟨this.1, this.2.1, fun _ => by omega⟩

theorem amr_bounds (HA CA HB CB : Nat → Int) (na nb : Nat) :
    (amr HA CA HB CB na nb).2 ≤ na + nb ∧ ((amr HA CA HB CB na nb).1 = true → na ≤ (amr HA CA HB CB na nb).2) ∧ ((amr HA CA HB CB na nb).1 = false → na ≠ 0) :=
  amrGo_bounds HA CA HB CB na nb na 0 0 (by omega) (Nat.zero_le _)

/-- One round that goes on. -/
theorem amrGo_on {HA CA HB CB : Nat → Int} {na nb i j j2 : Nat} (hi : i < na) (h1 : j ≤ j2) (h2 : j2 ≤ nb) (hb : ∀ t, j ≤ t → t < j2 → HB t < HA i) (hs : ¬ (j2 < nb ∧ HB j2 < HA i))
    {c : Int} (hc : cntAt HB CB nb (HA i) j2 = c) (hle : ¬ c < CA i) : amrGo HA CA HB CB na nb (na - i) i j = amrGo HA CA HB CB na nb (na - (i + 1)) (i + 1) j2 := by
  have e : na - i = (na - (i + 1)) + 1 := by omega
  have es := skipTo_at j2 hs h2 (nb - j) j h1 (by omega) hb
  rw [e, amrGo, es, hc, if_neg hle]

/-- One round that ends the call. -/
theorem amrGo_out {HA CA HB CB : Nat → Int} {na nb i j j2 : Nat} (hi : i < na) (h1 : j ≤ j2) (h2 : j2 ≤ nb) (hb : ∀ t, j ≤ t → t < j2 → HB t < HA i) (hs : ¬ (j2 < nb ∧ HB j2 < HA i))
    {c : Int} (hc : cntAt HB CB nb (HA i) j2 = c) (hle : c < CA i) : amrGo HA CA HB CB na nb (na - i) i j = (false, i + j2) := by
  have e : na - i = (na - (i + 1)) + 1 := by omega
  have es := skipTo_at j2 hs h2 (nb - j) j h1 (by omega) hb
  rw [e, amrGo, es, hc, if_pos hle]

theorem amrGo_end {HA CA HB CB : Nat → Int} {na nb i j : Nat} (hi : ¬ i < na) : amrGo HA CA HB CB na nb (na - i) i j = (true, na + j) := by
  rw [show na - i = 0 from by omega, amrGo]

end Go.Proofs.Ybulkdeho.Plain
