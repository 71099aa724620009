/- Counting the live declarations; the prefix of an ascending list below a bound. -/
namespace Go.Cnt

def cnt (p : Nat → Bool) : Nat → Nat
  | 0 => 0
  | i + 1 => cnt p i + (if p i then 1 else 0)

theorem cnt_succ (p : Nat → Bool) (i : Nat) : cnt p (i + 1) = cnt p i + (if p i then 1 else 0) := rfl

theorem cnt_le (p : Nat → Bool) : ∀ i, cnt p i ≤ i
  | 0 => Nat.le_refl _
  | i + 1 => by
    have := cnt_le p i
    rw [cnt_succ]
    split <;> omega

theorem cnt_mono (p : Nat → Bool) {i j : Nat} (h : i ≤ j) : cnt p i ≤ cnt p j := by
  induction h with
  | refl => exact Nat.le_refl _
  | step h ih => rw [cnt_succ]; omega

/-- The place of the m-th (from 0) that is live, below n. -/
theorem cnt_find (p : Nat → Bool) (m : Nat) : ∀ n, m < cnt p n → ∃ i, i < n ∧ p i = true ∧ cnt p i = m
  | 0, h => by simp [cnt] at h
  | n + 1, h => by
    rw [cnt_succ] at h
    by_cases e : m < cnt p n
    · obtain ⟨i, h1, h2, h3⟩ := cnt_find p m n e
      exact ⟨i, by omega, h2, h3⟩
    · by_cases hp : p n = true
      · rw [if_pos hp] at h
        exact ⟨n, by omega, hp, by omega⟩
      · rw [if_neg hp] at h
        omega

theorem cnt_uniq {p : Nat → Bool} {i j : Nat} (hi : p i = true) (hj : p j = true) (h : cnt p i = cnt p j) : i = j := by
  rcases Nat.lt_trichotomy i j with h1 | h1 | h1
  · have h2 := cnt_mono p (show i + 1 ≤ j from h1)
    rw [cnt_succ, if_pos hi] at h2
    omega
  · exact h1
  · have h2 := cnt_mono p (show j + 1 ≤ i from h1)
    rw [cnt_succ, if_pos hj] at h2
    omega

theorem cut_at {f : Nat → Nat} (hf : ∀ i j, i < j → f i < f j) (x : Int) : ∀ c, ∃ c', c' ≤ c ∧ (∀ i, i < c' → (f i : Int) < x) ∧ (∀ i, c' ≤ i → i < c → x ≤ (f i : Int))
  | 0 => ⟨0, Nat.le_refl _, fun i h => by omega, fun i h1 h2 => by omega⟩
  | c + 1 => by
    by_cases h : (f c : Int) < x
    · refine ⟨c + 1, Nat.le_refl _, fun i hi => ?_, fun i h1 h2 => by omega⟩
      by_cases e : i = c
      · subst e; exact h
      · have := hf i c (by omega); omega
    · obtain ⟨c', h1, h2, h3⟩ := cut_at hf x c
      refine ⟨c', by omega, h2, fun i h4 h5 => ?_⟩
      by_cases e : i = c
      · subst e; omega
      · exact h3 i h4 (by omega)

/-- The same for an ascent below u only. -/
theorem cut_below {f : Nat → Nat} {u : Nat} (hf : ∀ i j, i < j → j < u → f i < f j) (x : Int) : ∀ c, c ≤ u → ∃ c', c' ≤ c ∧ (∀ i, i < c' → (f i : Int) < x) ∧ (∀ i, c' ≤ i → i < c → x ≤ (f i : Int))
  | 0, _ => ⟨0, Nat.le_refl _, fun i h => by omega, fun i h1 h2 => by omega⟩
  | c + 1, hc => by
    by_cases h : (f c : Int) < x
    · refine ⟨c + 1, Nat.le_refl _, fun i hi => ?_, fun i h1 h2 => by omega⟩
      by_cases e : i = c
      · subst e; exact h
      · have := hf i c (by omega) (by omega); omega
    · obtain ⟨c', h1, h2, h3⟩ := cut_below hf x c (by omega)
      refine ⟨c', by omega, h2, fun i h4 h5 => ?_⟩
      by_cases e : i = c
      · subst e; omega
      · exact h3 i h4 (by omega)
end Go.Cnt
