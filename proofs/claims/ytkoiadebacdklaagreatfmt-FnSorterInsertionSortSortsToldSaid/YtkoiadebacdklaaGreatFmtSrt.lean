/- An insertion sort by steps, over any test 'less': what the array holds within a step and behind it; that it ascends. -/
import Derived.Laws.NewFold
import Derived.Laws.FloatArith
namespace Go.Srt

variable (lt : Nat → Nat → Bool)

/-- Where v comes to lie among f 0 .. f (b - 1), sought from above. -/
def pos (f : Nat → Nat) (v : Nat) : Nat → Nat
  | 0 => 0
  | b + 1 => if lt v (f b) then pos f v b else b + 1

theorem pos_le (f : Nat → Nat) (v : Nat) : ∀ b, pos lt f v b ≤ b
  | 0 => Nat.le_refl _
  | b + 1 => by
    rw [pos]
    split
    · have := pos_le f v b; omega
    · exact Nat.le_refl _

/-- v lies at b, what stood from b to a - 1 lies one place higher. -/
def gap (f : Nat → Nat) (v a b : Nat) (m : Nat) : Nat := if m = b then v else if b < m ∧ m ≤ a then f (m - 1) else f m
/-- The same, but that b holds what it held. -/
def hole (f : Nat → Nat) (a b : Nat) (m : Nat) : Nat := if b < m ∧ m ≤ a then f (m - 1) else f m

def step (f : Nat → Nat) (a : Nat) : Nat → Nat := gap f (f a) a (pos lt f (f a) a)

/-- The array behind a steps. -/
def st (f : Nat → Nat) : Nat → (Nat → Nat)
  | 0 => f
  | a + 1 => step lt (st f a) (a + 1)

theorem gap_top (f : Nat → Nat) (a : Nat) : gap f (f a) a a = f := by
  funext m
  unfold gap
  by_cases h : m = a
  · subst h; rw [if_pos rfl]
  · rw [if_neg h, if_neg (by omega)]

theorem hole_top (f : Nat → Nat) (a : Nat) : hole f a a = f := by
  funext m
  unfold hole
  rw [if_neg (by omega)]

/-- One exchange. -/
theorem gap_swap (f : Nat → Nat) (v a b : Nat) (hb : b + 1 ≤ a) (m : Nat) :
    gap f v a b m = if m = b then gap f v a (b + 1) (b + 1) else if m = b + 1 then gap f v a (b + 1) b else gap f v a (b + 1) m := by
  unfold gap
  by_cases h1 : m = b
  · subst h1; simp
  · rw [if_neg h1, if_neg h1]
    by_cases h2 : m = b + 1
    · subst h2
      rw [if_pos rfl, if_pos (by omega), if_neg (by omega), if_neg (by omega)]
      congr 1
    · rw [if_neg h2, if_neg h2]
      by_cases h3 : b < m ∧ m ≤ a
      · rw [if_pos h3, if_pos (by omega)]
      · rw [if_neg h3, if_neg (by omega)]

theorem gap_at (f : Nat → Nat) (v a b : Nat) : gap f v a b b = v := by unfold gap; rw [if_pos rfl]
theorem gap_low (f : Nat → Nat) (v a b m : Nat) (h : m < b) : gap f v a b m = f m := by unfold gap; rw [if_neg (by omega), if_neg (by omega)]
theorem hole_low (f : Nat → Nat) (a b m : Nat) (h : m ≤ b) : hole f a b m = f m := by unfold hole; rw [if_neg (by omega)]

theorem hole_move (f : Nat → Nat) (a b : Nat) (hb : b + 1 ≤ a) (m : Nat) : hole f a b m = if m = b + 1 then f b else hole f a (b + 1) m := by
  unfold hole
  by_cases h2 : m = b + 1
  · subst h2; rw [if_pos (by omega), if_pos rfl]; congr 1
  · rw [if_neg h2]
    by_cases h3 : b < m ∧ m ≤ a
    · rw [if_pos h3, if_pos (by omega)]
    · rw [if_neg h3, if_neg (by omega)]

theorem hole_put (f : Nat → Nat) (v a b m : Nat) : (if m = b then v else hole f a b m) = gap f v a b m := by
  unfold hole gap
  rfl

theorem pos_down {f : Nat → Nat} {v b : Nat} (h : lt v (f b) = true) : pos lt f v (b + 1) = pos lt f v b := by rw [pos, if_pos h]
theorem pos_stop {f : Nat → Nat} {v b : Nat} (h : lt v (f b) = false) : pos lt f v (b + 1) = b + 1 := by rw [pos, if_neg (by simp [h])]

/-- Below b nothing is less than what stands before it. -/
def Asc (f : Nat → Nat) (b : Nat) : Prop := ∀ m, m + 1 ≤ b → lt (f (m + 1)) (f m) = false

theorem pos_above {f : Nat → Nat} {v : Nat} : ∀ {b : Nat}, ∀ m, pos lt f v b ≤ m → m < b → lt v (f m) = true
  | 0, m, _, h => by omega
  | b + 1, m, h1, h2 => by
    rw [pos] at h1
    by_cases h : lt v (f b) = true
    · rw [if_pos h] at h1
      by_cases e : m = b
      · subst e; exact h
      · exact pos_above m h1 (by omega)
    · rw [if_neg h] at h1; omega

theorem pos_below {f : Nat → Nat} {v : Nat} : ∀ {b p : Nat}, pos lt f v b = p + 1 → lt v (f p) = false
  | 0, p, h => by simp [pos] at h
  | b + 1, p, h => by
    rw [pos] at h
    by_cases h1 : lt v (f b) = true
    · rw [if_pos h1] at h; exact pos_below h
    · rw [if_neg h1] at h
      obtain rfl : b = p := by omega
      simpa using h1

theorem step_asc (hl : ∀ a b, lt a b = true → lt b a = false) {f : Nat → Nat} {a : Nat} (h : Asc lt f a) : Asc lt (step lt f (a + 1)) (a + 1) := by
  intro m hm
  unfold step
  have hp := pos_le lt f (f (a + 1)) (a + 1)
  generalize hv : f (a + 1) = v at *
  generalize hq : pos lt f v (a + 1) = p at *
  unfold gap
  by_cases h1 : m + 1 = p
  · rw [if_pos h1, if_neg (by omega), if_neg (by omega)]
    exact pos_below lt (b := a + 1) (by rw [hq]; exact h1.symm)
  · rw [if_neg h1]
    by_cases h2 : m = p
    · subst h2
      rw [if_pos (by omega), if_pos rfl, Nat.add_sub_cancel]
      exact hl _ _ (pos_above lt (b := a + 1) m (by omega) (by omega))
    · rw [if_neg h2]
      by_cases h3 : p < m
      · obtain ⟨q, rfl⟩ : ∃ q, m = q + 1 := ⟨m - 1, by omega⟩
        rw [if_pos (by omega), if_pos (by omega)]
        exact h q (by omega)
      · rw [if_neg (by omega), if_neg (by omega)]
        exact h m (by omega)

theorem st_asc (hl : ∀ a b, lt a b = true → lt b a = false) (f : Nat → Nat) : ∀ a, Asc lt (st lt f a) a
  | 0 => fun m hm => by omega
  | a + 1 => step_asc lt hl (st_asc hl f a)

/-- What holds of all that stands there holds behind a step, and behind all steps. -/
theorem step_all {p : Nat → Prop} {f : Nat → Nat} {a k : Nat} (h : ∀ m, m < k → p (f m)) (ha : a < k) : ∀ m, m < k → p (step lt f a m) := by
  intro m hm
  unfold step gap
  split
  · exact h a ha
  · split
    · exact h (m - 1) (by omega)
    · exact h m hm

theorem st_all {p : Nat → Prop} {f : Nat → Nat} {k : Nat} (h : ∀ m, m < k → p (f m)) : ∀ a, a < k → ∀ m, m < k → p (st lt f a m)
  | 0, _ => h
  | a + 1, ha => step_all lt (st_all h a (by omega)) ha

end Go.Srt

namespace Go
def flt (a b : Nat) : Bool := FloatKind.f64.format.order a b == some .lt
theorem flt_asymm (a b : Nat) (h : flt a b = true) : flt b a = false := by
  unfold flt at *
  unfold Ieee.Format.order at *
  generalize FloatKind.f64.format.read a = x at *
  generalize FloatKind.f64.format.read b = y at *
  have cmp : ∀ p q : Int, compare p q = .lt → compare q p ≠ .lt := fun p q h1 h2 => by
    rw [Int.compare_eq_lt] at h1 h2; omega
  have cmpN : ∀ p q : Nat, compare p q = .lt → compare q p ≠ .lt := fun p q h1 h2 => by
    rw [Nat.compare_eq_lt] at h1 h2; omega
  cases x with
  | nan s p => simp [Ieee.Datum.order] at h
  | infinity s =>
    cases y with
    | nan _ _ => simp [Ieee.Datum.order] at h
    | infinity t =>
      simp only [Ieee.Datum.order, beq_iff_eq, Option.some.injEq] at h
      simp only [Ieee.Datum.order, beq_eq_false_iff_ne, ne_eq, Option.some.injEq]
      exact cmpN _ _ h
    | number t n j =>
      cases s <;> simp [Ieee.Datum.order] at h ⊢
  | number s m i =>
    cases y with
    | nan _ _ => simp [Ieee.Datum.order] at h
    | infinity t =>
      cases t <;> simp [Ieee.Datum.order] at h ⊢
    | number t n j =>
      simp only [Ieee.Datum.order, beq_iff_eq, Option.some.injEq] at h
      simp only [Ieee.Datum.order, beq_eq_false_iff_ne, ne_eq, Option.some.injEq]
      rw [show min j i = min i j from Int.min_comm j i]
      exact cmp _ _ h
/-- 1 over a zero is some float. -/
theorem one_quo (a : Nat) (h : (FloatKind.f64.format.order a 0 == some .eq) = true) : ∃ r, floatBits .quo .f64 4607182418800017408 a = some r := by
  have h1 : ∃ s m i, FloatKind.f64.format.read 4607182418800017408 = .number s (m + 1) i := ⟨_, _, _, by rfl⟩
  have h0 : ∃ s m i, FloatKind.f64.format.read 0 = .number s m i := ⟨_, _, _, by rfl⟩
  obtain ⟨s1, m1, i1, e1⟩ := h1
  obtain ⟨s0, m0, i0, e0⟩ := h0
  show ∃ r, FloatKind.f64.format.div 4607182418800017408 a = some r
  unfold Ieee.Format.div Ieee.Format.order at *
  rw [e1]
  rw [e0] at h
  generalize FloatKind.f64.format.read a = x at *
  cases x with
  | nan s p => simp [Ieee.Datum.order] at h
  | infinity s => cases s <;> simp [Ieee.Datum.order] at h
  | number s m i =>
    simp only [Ieee.Datum.quotient]
    split
    · exact ⟨_, rfl⟩
    · exact ⟨_, rfl⟩
end Go
