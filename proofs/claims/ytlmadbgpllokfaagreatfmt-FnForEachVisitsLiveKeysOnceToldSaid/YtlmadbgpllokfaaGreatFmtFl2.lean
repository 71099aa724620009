/-
  Plain facts on binary64 words II: which words are array keys; equality of keys.
-/
import Derived.Test.YtlmadbgpllokfaaGreatFmtFl
namespace Go.Fl
open Ieee

/-- A finite word. -/
def fin (b : Nat) : Prop := ∃ s m e, double.read b = .number s m e

theorem order_units {a b : Nat} (ha : fin a) (hb : fin b) : double.order a b = some (compare (U (double.read a)) (U (double.read b))) := by
  obtain ⟨s, m, i, h1⟩ := ha
  obtain ⟨t, n, j, h2⟩ := hb
  exact order_fin h1 h2

theorem eq_iff {a b : Nat} (ha : fin a) (hb : fin b) : double.order a b = some .eq ↔ U (double.read a) = U (double.read b) := by
  rw [order_units ha hb, cmp_eq]
  constructor
  · intro h
    by_cases h1 : U (double.read a) < U (double.read b)
    · rw [if_pos h1] at h; cases h
    · rw [if_neg h1] at h
      by_cases h2 : U (double.read a) = U (double.read b)
      · exact h2
      · rw [if_neg h2] at h; cases h
  · intro h
    rw [h, if_neg (Int.lt_irrefl _), if_pos rfl]
theorem lt_iff {a b : Nat} (ha : fin a) (hb : fin b) : double.order a b = some .lt ↔ U (double.read a) < U (double.read b) := by
  rw [order_units ha hb, cmp_eq]
  by_cases h1 : U (double.read a) < U (double.read b)
  · simp [h1]
  · rw [if_neg h1]
    by_cases h2 : U (double.read a) = U (double.read b)
    · simp [h2]
    · simp [h1, h2]
theorem gt_iff {a b : Nat} (ha : fin a) (hb : fin b) : double.order a b = some .gt ↔ U (double.read b) < U (double.read a) := by
  rw [order_units ha hb, cmp_eq]
  by_cases h1 : U (double.read a) < U (double.read b)
  · simp [h1]; omega
  · rw [if_neg h1]
    by_cases h2 : U (double.read a) = U (double.read b)
    · simp [h2]
    · simp [h2]; omega

/-- Between two finite words all is finite. -/
theorem fin_between {a lo hi : Nat} (hl : fin lo) (hh : fin hi) (h1 : double.order a lo = some .gt) (h2 : double.order a hi = some .lt) : fin a := by
  obtain ⟨s1, m1, e1, r1⟩ := hl
  obtain ⟨s2, m2, e2, r2⟩ := hh
  unfold Format.order at h1 h2
  rw [r1] at h1
  rw [r2] at h2
  unfold fin
  cases h : double.read a with
  | number s m e => exact ⟨s, m, e, rfl⟩
  | infinity s =>
    rw [h] at h1 h2
    cases s
    · cases h2
    · cases h1
  | nan s f =>
    rw [h] at h1
    cases h1

theorem fin_of_int {n : Int} (h : n.natAbs ≤ 9007199254740992) : fin (FloatKind.f64.nearest n) := by
  obtain ⟨s, m, e, hr, _⟩ := of_int n h
  exact ⟨s, m, e, hr⟩
theorem U_of_int {n : Int} (h : n.natAbs ≤ 9007199254740992) : U (double.read (FloatKind.f64.nearest n)) = n * sc := by
  obtain ⟨_, _, _, _, hu⟩ := of_int n h
  exact hu

theorem signed_false (m k : Nat) : signed false m k = ((m * 2 ^ k : Nat) : Int) := by
  unfold signed
  rw [shl_eq]; rfl
theorem signed_true (m k : Nat) : signed true m k = -((m * 2 ^ k : Nat) : Int) := by
  unfold signed
  rw [shl_eq]; rfl

theorem sc_nat : sc = ((2 ^ 1074 : Nat) : Int) := sc_cast.symm
theorem tn_up {e : Int} (he : 0 ≤ e) : (e + 1074).toNat = e.toNat + 1074 := by omega
theorem pow_cut (m a K : Nat) : m * 2 ^ (a + K) / 2 ^ K = m * 2 ^ a := by rw [Nat.pow_add, ← Nat.mul_assoc, Nat.mul_div_cancel _ (Nat.two_pow_pos _)]

/-- A word above zero cut towards zero: its units divided by the units in one. -/
theorem trunc_pos {b : Nat} (hf : fin b) (h0 : 0 < U (double.read b)) : (double.read b).toInt .zero = some (U (double.read b) / sc) := by
  obtain ⟨s, m, e, hr⟩ := hf
  have hp := read_place hr
  rw [hr] at h0 ⊢
  rw [toInt_num]
  unfold U at h0 ⊢
  cases s with
  | true =>
    exfalso
    simp only [signed_true] at h0
    omega
  | false =>
    simp only [signed_false, sc_nat, Nat.pow_zero, Nat.mul_one, ← Int.natCast_ediv]
    congr 2
    by_cases he : 0 ≤ e
    · rw [show (-e).toNat = 0 by omega, Nat.pow_zero, Nat.div_one, tn_up he]; exact (pow_cut _ _ 1074).symm
    · have e1 : (1074 : Nat) = (e + 1074).toNat + (-e).toNat := by omega
      rw [show e.toNat = 0 by omega, Nat.pow_zero, Nat.mul_one]
      conv => rhs; rw [show (2 ^ 1074 : Nat) = 2 ^ (-e).toNat * 2 ^ (e + 1074).toNat by rw [← Nat.pow_add]; congr 1; omega]
      rw [Nat.mul_div_mul_right _ _ (Nat.two_pow_pos _)]

/-- The array slot (1-based) that a number names as a key, if it names one. -/
def akey (b : Nat) : Option Nat :=
  if double.order b (FloatKind.f64.nearest 0) = some .gt ∧ double.order b (FloatKind.f64.nearest 67108864) = some .lt ∧ U (double.read b) = U (double.read b) / sc * sc then some (U (double.read b) / sc).toNat else none

theorem akey_some {b i : Nat} (h : akey b = some i) : fin b ∧ U (double.read b) = (i : Int) * sc ∧ 1 ≤ i ∧ i < 67108864 := by
  unfold akey at h
  split at h
  · rename_i hh
    obtain ⟨h1, h2, h3⟩ := hh
    have hf := fin_between (fin_of_int (by decide)) (fin_of_int (by decide)) h1 h2
    rw [gt_iff hf (fin_of_int (by decide)), U_of_int (by decide)] at h1
    rw [lt_iff hf (fin_of_int (by decide)), U_of_int (by decide)] at h2
    have hs := sc_pos
    cases h
    generalize hX : U (double.read b) = X at *
    generalize hQ : X / sc = Q at *
    have q1 : 0 < Q := by
      rcases Int.lt_or_le 0 Q with hq | hq
      · exact hq
      · exfalso
        have : Q * sc ≤ 0 := Int.mul_nonpos_of_nonpos_of_nonneg hq (by omega)
        omega
    have q2 : Q < 67108864 := by
      rcases Int.lt_or_le Q 67108864 with hq | hq
      · exact hq
      · exfalso
        have : 67108864 * sc ≤ Q * sc := Int.mul_le_mul_of_nonneg_right hq (by omega)
        omega
    refine ⟨hf, ?_, by omega, by omega⟩
    rw [show ((Q.toNat : Nat) : Int) = Q by omega]
    exact h3
  · cases h

theorem akey_of {b i : Nat} (hf : fin b) (hu : U (double.read b) = (i : Int) * sc) (h1 : 1 ≤ i) (h2 : i < 67108864) : akey b = some i := by
  have hs := sc_pos
  have hd : U (double.read b) / sc = i := by rw [hu]; exact Int.mul_ediv_cancel _ (by omega)
  unfold akey
  rw [if_pos]
  · rw [hd]; rfl
  · refine ⟨?_, ?_, ?_⟩
    · rw [gt_iff hf (fin_of_int (by decide)), U_of_int (by decide), hu]
      have : (1 : Int) * sc ≤ i * sc := Int.mul_le_mul_of_nonneg_right (by omega) (by omega)
      omega
    · rw [lt_iff hf (fin_of_int (by decide)), U_of_int (by decide), hu]
      have : ((i : Int) + 1) * sc ≤ 67108864 * sc := Int.mul_le_mul_of_nonneg_right (by omega) (by omega)
      rw [Int.add_mul] at this
      omega
    · rw [hd]; exact hu

/-- A finite word equal to another is finite. -/
theorem fin_eq {a b : Nat} (ha : fin a) (h : double.order b a = some .eq) : fin b := by
  obtain ⟨s, m, e, hr⟩ := ha
  unfold Format.order at h
  rw [hr] at h
  unfold fin
  cases hb : double.read b with
  | number s m e => exact ⟨s, m, e, rfl⟩
  | infinity s => rw [hb] at h; cases s <;> cases h
  | nan s f => rw [hb] at h; cases h

theorem akey_eq {a b i : Nat} (ha : akey a = some i) (h : double.order b a = some .eq) : akey b = some i := by
  obtain ⟨f1, u1, l1, l2⟩ := akey_some ha
  have f2 := fin_eq f1 h
  rw [eq_iff f2 f1] at h
  exact akey_of f2 (by rw [h, u1]) l1 l2
theorem eq_akey {a b i : Nat} (ha : akey a = some i) (hb : akey b = some i) : double.order a b = some .eq := by
  obtain ⟨f1, u1, _, _⟩ := akey_some ha
  obtain ⟨f2, u2, _, _⟩ := akey_some hb
  rw [eq_iff f1 f2, u1, u2]
end Go.Fl
