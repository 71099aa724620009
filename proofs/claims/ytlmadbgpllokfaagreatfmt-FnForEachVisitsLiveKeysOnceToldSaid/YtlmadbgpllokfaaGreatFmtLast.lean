/-
  A script of stores, and what is held behind it at a key: the last store under an equal key, or what was there.
-/
namespace Go.Last

variable {K V : Type} (eqk : K → K → Bool)

/-- What is held behind one store. -/
def upd (g : K → V) (k : K) (v : V) : K → V := fun q => if eqk q k then v else g q

/-- .. behind n stores. -/
def run (g : K → V) (ks : Nat → K) (vs : Nat → V) : Nat → (K → V)
  | 0 => g
  | n + 1 => upd eqk (run g ks vs n) (ks n) (vs n)

/-- The last of the first n keys that equals q. -/
def last (ks : Nat → K) (q : K) : Nat → Option Nat
  | 0 => none
  | n + 1 => if eqk q (ks n) then some n else last ks q n

theorem run_last (g : K → V) (ks : Nat → K) (vs : Nat → V) (q : K) : ∀ n, run eqk g ks vs n q = match last eqk ks q n with | some j => vs j | none => g q
  | 0 => rfl
  | n + 1 => by
    unfold run upd last
    by_cases h : eqk q (ks n) = true
    · rw [if_pos h, if_pos h]
    · rw [if_neg h, if_neg h]; exact run_last g ks vs q n

theorem last_lt {ks : Nat → K} {q : K} : ∀ {n j}, last eqk ks q n = some j → j < n
  | 0, j, h => by cases h
  | n + 1, j, h => by
    unfold last at h
    by_cases e : eqk q (ks n) = true
    · rw [if_pos e] at h; cases h; omega
    · rw [if_neg e] at h; have := last_lt h; omega

theorem last_eq {ks : Nat → K} {q : K} : ∀ {n j}, last eqk ks q n = some j → eqk q (ks j) = true
  | 0, j, h => by cases h
  | n + 1, j, h => by
    unfold last at h
    by_cases e : eqk q (ks n) = true
    · rw [if_pos e] at h; cases h; exact e
    · rw [if_neg e] at h; exact last_eq h

theorem last_none {ks : Nat → K} {q : K} : ∀ {n}, last eqk ks q n = none ↔ ∀ i, i < n → eqk q (ks i) = false
  | 0 => ⟨fun _ i h => by omega, fun _ => rfl⟩
  | n + 1 => by
    unfold last
    by_cases e : eqk q (ks n) = true
    · rw [if_pos e]
      exact ⟨fun h => (by cases h), fun h => by have := h n (by omega); rw [e] at this; cases this⟩
    · rw [if_neg e, last_none]
      refine ⟨fun h i hi => ?_, fun h i hi => h i (by omega)⟩
      by_cases hn : i = n
      · subst hn; simpa using e
      · exact h i (by omega)

/-- The last one from above: none of those above it is equal. -/
theorem last_some {ks : Nat → K} {q : K} {n j : Nat} (hj : j < n) (h : eqk q (ks j) = true) (ha : ∀ i, j < i → i < n → eqk q (ks i) = false) : last eqk ks q n = some j := by
  induction n with
  | zero => omega
  | succ n ih =>
    unfold last
    by_cases e : j = n
    · subst e; rw [if_pos h]
    · rw [if_neg (by rw [ha n (by omega) (by omega)]; simp)]
      exact ih (by omega) (fun i h1 h2 => ha i h1 (by omega))
/-- Two equalities that agree name the same store. -/
theorem last_congr {K' : Type} {eqk' : K' → K' → Bool} {ks : Nat → K} {ks' : Nat → K'} {q : K} {q' : K'} : ∀ {n : Nat}, (∀ i, i < n → eqk q (ks i) = eqk' q' (ks' i)) → last eqk ks q n = last eqk' ks' q' n
  | 0, _ => rfl
  | n + 1, h => by
    unfold last
    rw [h n (by omega), last_congr (fun i hi => h i (by omega))]
end Go.Last
