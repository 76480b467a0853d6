/-
  PLAIN LAWS for seat b5279a, no Go in sight: tallies and Fenwick trees over fewer than 512 places.
-/
namespace Go.Proofs.Ybulkdeho.Plain

/-- The lowest set bit of a number below 512. -/
def lb (n : Nat) : Nat :=
  if n = 0 then 0 else if n % 2 = 1 then 1 else if n % 4 = 2 then 2 else if n % 8 = 4 then 4 else if n % 16 = 8 then 8 else if n % 32 = 16 then 16
  else if n % 64 = 32 then 32 else if n % 128 = 64 then 64 else if n % 256 = 128 then 128 else 256

/-- How many were counted at the places below n. -/
def sm (M : Nat → Int) : Nat → Int
  | 0 => 0
  | n + 1 => sm M n + M n

/-- One more at place p. -/
def addTo (M : Nat → Int) (p : Nat) : Nat → Int := fun i => if i = p then M i + 1 else M i

/-- What the counter's array holds: a tally, or a Fenwick tree. -/
def tr (fw : Bool) (M : Nat → Int) (i : Nat) : Int := if fw then sm M i - sm M (i - lb i) else if i = 0 then 0 else M (i - 1)

/-- The highest place, p counted. -/
def topOf (top : Int) (p : Nat) : Int := if top < p then (p : Int) else top

/-- The books: what holds of the counts M, their sum, the highest place. -/
structure Book (sz : Nat) (M : Nat → Int) (adds top : Int) : Prop where
  nn : ∀ i, 0 ≤ M i
  tot : sm M sz = adds
  lo : -1 ≤ top
  hi : top < sz
  past : ∀ i : Nat, top < (i : Int) → M i = 0

theorem sm_addTo (M : Nat → Int) (p : Nat) : ∀ n, sm (addTo M p) n = sm M n + if p < n then 1 else 0 := by
  intro n
  induction n with
  | zero => simp [sm]
  | succ n ih =>
    rw [sm, sm, ih]
    unfold addTo
    by_cases h : n = p
    · subst h
      rw [if_pos rfl, if_neg (by omega), if_pos (by omega)]; omega
    · rw [if_neg h]
      by_cases h2 : p < n
      · rw [if_pos h2, if_pos (by omega)]; omega
      · rw [if_neg h2, if_neg (by omega)]; omega

theorem sm_mono {M : Nat → Int} (nn : ∀ i, 0 ≤ M i) (a : Nat) : ∀ d, sm M a ≤ sm M (a + d) := by
  intro d
  induction d with
  | zero => exact Int.le_refl _
  | succ d ih =>
    have : sm M (a + (d + 1)) = sm M (a + d) + M (a + d) := rfl
    have := nn (a + d)
    omega

theorem sm_le {M : Nat → Int} (nn : ∀ i, 0 ≤ M i) {a b : Nat} (h : a ≤ b) : sm M a ≤ sm M b := by
  have := sm_mono nn a (b - a)
  rwa [show a + (b - a) = b from by omega] at this

theorem sm_nn {M : Nat → Int} (nn : ∀ i, 0 ≤ M i) (n : Nat) : 0 ≤ sm M n := sm_le nn (Nat.zero_le n)

theorem Book.le {sz : Nat} {M : Nat → Int} {adds top : Int} (h : Book sz M adds top) {i : Nat} (hi : i ≤ sz) : sm M i ≤ adds := h.tot ▸ sm_le h.nn hi

theorem Book.one {sz : Nat} {M : Nat → Int} {adds top : Int} (h : Book sz M adds top) {i : Nat} (hi : i < sz) : 0 ≤ M i ∧ M i ≤ adds := by
  have h1 := h.le (i := i + 1) (by omega)
  have h2 := sm_nn h.nn i
  have : sm M (i + 1) = sm M i + M i := rfl
  exact ⟨h.nn i, by omega⟩

theorem Book.sum {sz : Nat} {M : Nat → Int} {adds top : Int} (h : Book sz M adds top) {a b : Nat} (hab : a ≤ b) (hb : b ≤ sz) : 0 ≤ sm M b - sm M a ∧ sm M b - sm M a ≤ adds := by
  have h1 := h.le hb
  have h2 := sm_nn h.nn a
  have h3 := sm_le h.nn hab
  omega

theorem Book.tr {sz : Nat} {M : Nat → Int} {adds top : Int} (h : Book sz M adds top) (fw : Bool) {i : Nat} (hi : i ≤ sz) : 0 ≤ Plain.tr fw M i ∧ Plain.tr fw M i ≤ adds := by
  unfold Plain.tr
  cases fw with
  | true => exact h.sum (Nat.sub_le _ _) hi
  | false =>
    by_cases h0 : i = 0
    · have := h.le (Nat.zero_le sz)
      simp [h0]; simpa [sm] using this
    · simp [h0]; exact h.one (by omega)

theorem Book.start (sz : Nat) : Book sz (fun _ => 0) 0 (-1) := by
  refine ⟨fun _ => Int.le_refl _, ?_, Int.le_refl _, by omega, fun _ _ => rfl⟩
  induction sz with
  | zero => rfl
  | succ n ih => rw [sm, ih]; rfl

theorem Book.add {sz : Nat} {M : Nat → Int} {adds top : Int} (h : Book sz M adds top) {p : Nat} (hp : p < sz) : Book sz (addTo M p) (adds + 1) (topOf top p) := by
  obtain ⟨top', ht⟩ : ∃ t, t = topOf top p := ⟨_, rfl⟩
  rw [← ht]
  unfold topOf at ht
  have lo := h.lo
  have hi := h.hi
  refine ⟨fun i => ?_, ?_, ?_, ?_, fun i hi => ?_⟩
  · unfold addTo; have := h.nn i; split <;> omega
  · rw [sm_addTo, if_pos hp, h.tot]
  · subst ht; split <;> omega
  · subst ht; split <;> omega
  · have : i ≠ p := by subst ht; intro e; subst e; split at hi <;> omega
    unfold addTo
    rw [if_neg this]
    exact h.past i (by subst ht; split at hi <;> omega)

theorem tr_start (fw : Bool) (i : Nat) : tr fw (fun _ => 0) i = 0 := by
  have h : ∀ n, sm (fun _ => 0) n = 0 := fun n => by
    induction n with
    | zero => rfl
    | succ n ih => rw [sm, ih]; rfl
  unfold tr
  rw [h, h]
  split
  · rfl
  · split <;> rfl

theorem tr_tally_succ (M : Nat → Int) (i : Nat) : tr false M (i + 1) = M i := by simp [tr]
theorem tr_zero (fw : Bool) (M : Nat → Int) : tr fw M 0 = 0 := by cases fw <;> simp [tr, lb, sm]

/-- A tally, one more at p. -/
theorem tr_tally_add (M : Nat → Int) (p i : Nat) : tr false (addTo M p) i = if i = p + 1 then tr false M (p + 1) + 1 else tr false M i := by
  unfold tr addTo
  by_cases h : i = p + 1
  · subst h; simp
  · rw [if_neg h]
    by_cases h0 : i = 0
    · simp [h0]
    · simp only [Bool.false_eq_true, if_false, if_neg h0, if_neg (show ¬ i - 1 = p from by omega)]

/-! ### The lowest bit -/
theorem lb_cases {n : Nat} (h0 : 0 < n) (h : n < 512) : (lb n = 1 ∧ n % 2 = 1) ∨ (lb n = 2 ∧ n % 4 = 2) ∨ (lb n = 4 ∧ n % 8 = 4) ∨ (lb n = 8 ∧ n % 16 = 8) ∨ (lb n = 16 ∧ n % 32 = 16) ∨ (lb n = 32 ∧ n % 64 = 32) ∨
    (lb n = 64 ∧ n % 128 = 64) ∨ (lb n = 128 ∧ n % 256 = 128) ∨ (lb n = 256 ∧ n % 512 = 256) := by
  have z : ¬ n = 0 := by omega
  by_cases c0 : n % 2 = 1
  · have e : lb n = 1 := by unfold lb; rw [if_neg z, if_pos c0]
    exact .inl ⟨e, c0⟩
  have d0 : n % 2 = 0 := by clear h h0 z; omega
  by_cases c1 : n % 4 = 2
  · have e : lb n = 2 := by unfold lb; rw [if_neg z, if_neg c0, if_pos c1]
    exact .inr (.inl ⟨e, c1⟩)
  have d1 : n % 4 = 0 := by clear h h0 z c0; omega
  by_cases c2 : n % 8 = 4
  · have e : lb n = 4 := by unfold lb; rw [if_neg z, if_neg c0, if_neg c1, if_pos c2]
    exact .inr (.inr (.inl ⟨e, c2⟩))
  have d2 : n % 8 = 0 := by clear h h0 z c0 c1 d0; omega
  by_cases c3 : n % 16 = 8
  · have e : lb n = 8 := by unfold lb; rw [if_neg z, if_neg c0, if_neg c1, if_neg c2, if_pos c3]
    exact .inr (.inr (.inr (.inl ⟨e, c3⟩)))
  have d3 : n % 16 = 0 := by clear h h0 z c0 c1 c2 d0 d1; omega
  by_cases c4 : n % 32 = 16
  · have e : lb n = 16 := by unfold lb; rw [if_neg z, if_neg c0, if_neg c1, if_neg c2, if_neg c3, if_pos c4]
    exact .inr (.inr (.inr (.inr (.inl ⟨e, c4⟩))))
  have d4 : n % 32 = 0 := by clear h h0 z c0 c1 c2 c3 d0 d1 d2; omega
  by_cases c5 : n % 64 = 32
  · have e : lb n = 32 := by unfold lb; rw [if_neg z, if_neg c0, if_neg c1, if_neg c2, if_neg c3, if_neg c4, if_pos c5]
    exact .inr (.inr (.inr (.inr (.inr (.inl ⟨e, c5⟩)))))
  have d5 : n % 64 = 0 := by clear h h0 z c0 c1 c2 c3 c4 d0 d1 d2 d3; omega
  by_cases c6 : n % 128 = 64
  · have e : lb n = 64 := by unfold lb; rw [if_neg z, if_neg c0, if_neg c1, if_neg c2, if_neg c3, if_neg c4, if_neg c5, if_pos c6]
    exact .inr (.inr (.inr (.inr (.inr (.inr (.inl ⟨e, c6⟩))))))
  have d6 : n % 128 = 0 := by clear h h0 z c0 c1 c2 c3 c4 c5 d0 d1 d2 d3 d4; omega
  by_cases c7 : n % 256 = 128
  · have e : lb n = 128 := by unfold lb; rw [if_neg z, if_neg c0, if_neg c1, if_neg c2, if_neg c3, if_neg c4, if_neg c5, if_neg c6, if_pos c7]
    exact .inr (.inr (.inr (.inr (.inr (.inr (.inr (.inl ⟨e, c7⟩)))))))
  have d7 : n % 256 = 0 := by clear h h0 z c0 c1 c2 c3 c4 c5 c6 d0 d1 d2 d3 d4 d5; omega
  have e : lb n = 256 := by unfold lb; rw [if_neg z, if_neg c0, if_neg c1, if_neg c2, if_neg c3, if_neg c4, if_neg c5, if_neg c6, if_neg c7]
  have d8 : n % 512 = 256 := by clear e z c0 c1 c2 c3 c4 c5 c6 c7 d0 d1 d2 d3 d4 d5 d6; omega
  exact .inr (.inr (.inr (.inr (.inr (.inr (.inr (.inr ⟨e, d8⟩)))))))

theorem lb_pos {n : Nat} (h0 : 0 < n) (h : n < 512) : 0 < lb n ∧ lb n ≤ n := by
  rcases lb_cases h0 h with h | h | h | h | h | h | h | h | h <;> omega

theorem lb_zero : lb 0 = 0 := rfl

/-- Between i and i + lb i no node reaches below i. -/
theorem lb_between {i k : Nat} (h0 : 0 < i) (h1 : i < k) (h2 : k < i + lb i) (h : k < 512) : i ≤ k - lb k := by
  rcases lb_cases h0 (by omega) with a | a | a | a | a | a | a | a | a <;> rcases lb_cases (n := k) (by omega) h with b | b | b | b | b | b | b | b | b <;> omega

/-- The node above reaches at least as low. -/
theorem lb_up {i : Nat} (h0 : 0 < i) (h : i + lb i < 512) : (i + lb i) - lb (i + lb i) ≤ i - lb i := by
  have hp := lb_pos h0 (show i < 512 by omega)
  rcases lb_cases h0 (by omega) with a | a | a | a | a | a | a | a | a <;> rcases lb_cases (n := i + lb i) (by omega) h with b | b | b | b | b | b | b | b | b <;> omega

/-- A Fenwick tree in which the nodes below i already count one more at p. -/
def half (M : Nat → Int) (p i k : Nat) : Int := if k < i then tr true (addTo M p) k else tr true M k

theorem tr_fen_add (M : Nat → Int) (p k : Nat) : tr true (addTo M p) k = tr true M k + if p < k ∧ k - lb k ≤ p then 1 else 0 := by
  simp only [tr, if_true, sm_addTo]
  have h := Nat.sub_le k (lb k)
  by_cases h1 : p < k
  · by_cases h2 : k - lb k ≤ p
    · rw [if_pos h1, if_neg (by omega), if_pos ⟨h1, h2⟩]; omega
    · rw [if_pos h1, if_pos (by omega), if_neg (by omega)]; omega
  · rw [if_neg h1, if_neg (by omega), if_neg (by omega)]; omega

theorem half_start (M : Nat → Int) (p k : Nat) : half M p (p + 1) k = tr true M k := by
  unfold half
  split
  · rw [tr_fen_add, if_neg (by omega)]; omega
  · rfl

theorem half_step {M : Nat → Int} {p i k : Nat} (hp : p < i) (hi : i - lb i ≤ p) (hk : k < 512) : (if k = i then half M p i i + 1 else half M p i k) = half M p (i + lb i) k := by
  have h0 : 0 < i := by omega
  by_cases hki : k = i
  · subst hki
    have hl := lb_pos h0 hk
    rw [if_pos rfl]
    unfold half
    rw [if_neg (by omega), if_pos (by omega), tr_fen_add, if_pos ⟨hp, hi⟩]
  · rw [if_neg hki]
    unfold half
    by_cases h1 : k < i
    · rw [if_pos h1, if_pos (by omega)]
    · rw [if_neg h1]
      by_cases h2 : k < i + lb i
      · have := lb_between h0 (show i < k by omega) h2 hk
        rw [if_pos h2, tr_fen_add, if_neg (by omega)]; omega
      · rw [if_neg h2]

theorem half_end {M : Nat → Int} {p i k : Nat} (h : k < i) : half M p i k = tr true (addTo M p) k := if_pos h

theorem half_bounds {sz : Nat} {M : Nat → Int} {adds top : Int} (h : Book sz M adds top) {p : Nat} (hp : p < sz) {i k : Nat} (hk : k ≤ sz) : 0 ≤ half M p i k ∧ half M p i k ≤ adds + 1 := by
  unfold half
  have h1 := (h.add hp).tr true hk
  have h2 := h.tr true hk
  split <;> omega

end Go.Proofs.Ybulkdeho.Plain
