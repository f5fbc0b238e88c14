/-
  THE PLAIN LAWS of seat b6608524a: pieces in order and apart; which of them holds a place. No Go in sight.
-/
namespace Go.Proofs.Qxb6608524a.Pl

/-- 'inOrderAndApart'. -/
def Ord (X E : Nat → Int) (n : Nat) : Prop := ∀ q, q < n → X q ≤ E q ∧ (q + 1 < n → E q ≤ X (q + 1))
/-- 'covers'. -/
def Cov (X E : Nat → Int) (n : Nat) (s : Int) : Prop := ∃ q, q < n ∧ X q ≤ s ∧ s < E q

theorem Ord.le {X E : Nat → Int} {n : Nat} (h : Ord X E n) : ∀ a b, a < b → b < n → E a ≤ X b := by
  intro a b hab
  obtain ⟨d, rfl⟩ : ∃ d, b = a + 1 + d := ⟨b - (a + 1), by omega⟩
  induction d with
  | zero => intro hb; exact (h a (by omega)).2 (by omega)
  | succ d ih =>
    intro hb
    have h1 := ih (by omega) (by omega)
    have h2 := (h (a + 1 + d) (by omega)).1
    have h3 := (h (a + 1 + d) (by omega)).2 (by omega)
    have e : a + 1 + d + 1 = a + 1 + (d + 1) := by omega
    rw [e] at h3
    omega

/-- The ends go up. -/
theorem Ord.mono {X E : Nat → Int} {n : Nat} (h : Ord X E n) : ∀ a b, a ≤ b → b < n → E a ≤ E b := by
  intro a b hab hb
  by_cases e : a = b
  · subst e; omega
  · have h1 := h.le a b (by omega) hb
    have h2 := (h b hb).1
    omega

/-- What the search comes to: j is the first piece whose end lies behind s; 'j < n && X j <= s' says whether some piece holds s. -/
theorem within_iff {X E : Nat → Int} {n : Nat} (h : Ord X E n) (s : Int) (j : Nat) (hj : j ≤ n) (hlo : ∀ t, t < j → ¬ s < E t) (hhi : ∀ t, j ≤ t → t < n → s < E t) :
    (j < n ∧ X j ≤ s) ↔ Cov X E n s := by
  constructor
  · rintro ⟨h1, h2⟩
    exact ⟨j, h1, h2, hhi j (Nat.le_refl _) h1⟩
  · rintro ⟨q, hq, h1, h2⟩
    have hjq : j ≤ q := by
      rcases Nat.lt_or_ge q j with h' | h'
      · exact absurd h2 (hlo q h')
      · exact h'
    by_cases e : j = q
    · subst e; exact ⟨hq, h1⟩
    · have h3 := h.le j q (by omega) hq
      have h4 := hhi j (Nat.le_refl _) (by omega)
      omega

/-- At most one piece holds s. -/
theorem Ord.one {X E : Nat → Int} {n : Nat} (h : Ord X E n) {s : Int} {a b : Nat} (ha : a < n) (hb : b < n) (h1 : X a ≤ s) (h2 : s < E a) (h3 : X b ≤ s) (h4 : s < E b) : a = b := by
  rcases Nat.lt_trichotomy a b with h' | h' | h'
  · have := h.le a b h' hb; omega
  · exact h'
  · have := h.le b a h' ha; omega

/-- The list cut at k. -/
theorem Ord.left {X E : Nat → Int} {n k : Nat} (h : Ord X E n) (hk : k ≤ n) : Ord X E k := fun q hq => ⟨(h q (by omega)).1, fun h' => (h q (by omega)).2 (by omega)⟩
theorem Ord.right {X E : Nat → Int} {n k : Nat} (h : Ord X E n) (hk : k ≤ n) : Ord (fun i => X (k + i)) (fun i => E (k + i)) (n - k) := fun q hq => ⟨(h (k + q) (by omega)).1, fun h' => (h (k + q) (by omega)).2 (by omega)⟩
theorem cov_cut (X E : Nat → Int) (n k : Nat) (hk : k ≤ n) (s : Int) : Cov X E n s ↔ Cov X E k s ∨ Cov (fun i => X (k + i)) (fun i => E (k + i)) (n - k) s := by
  constructor
  · rintro ⟨q, hq, h1, h2⟩
    rcases Nat.lt_or_ge q k with h' | h'
    · exact Or.inl ⟨q, h', h1, h2⟩
    · refine Or.inr ⟨q - k, by omega, ?_⟩
      have e : k + (q - k) = q := by omega
      simp only [e]
      exact ⟨h1, h2⟩
  · rintro (⟨q, hq, h1, h2⟩ | ⟨q, hq, h1, h2⟩)
    · exact ⟨q, by omega, h1, h2⟩
    · exact ⟨k + q, by omega, h1, h2⟩

/-- The list without piece k. -/
def drop1 (k : Nat) (f : Nat → Int) : Nat → Int := fun i => if i < k then f i else f (i + 1)
theorem Ord.drop {X E : Nat → Int} {n k : Nat} (h : Ord X E n) (hk : k < n) : Ord (drop1 k X) (drop1 k E) (n - 1) := by
  intro q hq
  unfold drop1
  by_cases h1 : q < k
  · rw [if_pos h1, if_pos h1]
    refine ⟨(h q (by omega)).1, fun h' => ?_⟩
    by_cases h2 : q + 1 < k
    · rw [if_pos h2]; exact (h q (by omega)).2 (by omega)
    · rw [if_neg h2]; exact h.le q (q + 1 + 1) (by omega) (by omega)
  · rw [if_neg h1, if_neg h1]
    refine ⟨(h (q + 1) (by omega)).1, fun h' => ?_⟩
    rw [if_neg (by omega)]
    exact (h (q + 1) (by omega)).2 (by omega)
theorem cov_drop {X E : Nat → Int} {n k : Nat} (h : Ord X E n) (hk : k < n) (s : Int) : Cov (drop1 k X) (drop1 k E) (n - 1) s ↔ Cov X E n s ∧ ¬ (X k ≤ s ∧ s < E k) := by
  constructor
  · rintro ⟨q, hq, h1, h2⟩
    unfold drop1 at h1 h2
    by_cases hqk : q < k
    · rw [if_pos hqk] at h1 h2
      refine ⟨⟨q, by omega, h1, h2⟩, fun ⟨h3, h4⟩ => ?_⟩
      have := h.one (by omega) hk h1 h2 h3 h4
      omega
    · rw [if_neg hqk] at h1 h2
      refine ⟨⟨q + 1, by omega, h1, h2⟩, fun ⟨h3, h4⟩ => ?_⟩
      have := h.one (by omega) hk h1 h2 h3 h4
      omega
  · rintro ⟨⟨q, hq, h1, h2⟩, h3⟩
    have hne : q ≠ k := fun e => h3 (by rw [← e]; exact ⟨h1, h2⟩)
    by_cases hqk : q < k
    · exact ⟨q, by omega, by unfold drop1; rw [if_pos hqk]; exact h1, by unfold drop1; rw [if_pos hqk]; exact h2⟩
    · refine ⟨q - 1, by omega, ?_, ?_⟩
      · unfold drop1; rw [if_neg (by omega), show q - 1 + 1 = q from by omega]; exact h1
      · unfold drop1; rw [if_neg (by omega), show q - 1 + 1 = q from by omega]; exact h2

end Go.Proofs.Qxb6608524a.Pl
