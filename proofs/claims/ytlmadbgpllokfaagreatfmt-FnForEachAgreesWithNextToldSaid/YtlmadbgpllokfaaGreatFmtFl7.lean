/- An integer of at most 53 bits made a float and cut again. -/
import Derived.Test.YtlmadbgpllokfaaGreatFmtFl3
namespace Go.Fl
open Ieee

theorem quot_same (m : Nat) (e : Int) (P K : Nat) (hP : P = 2 ^ K) (hp : -(K : Int) ≤ e) : m * 2 ^ e.toNat / 2 ^ (-e).toNat = m * 2 ^ (e + K).toNat / P := by
  subst hP
  by_cases he : 0 ≤ e
  · rw [show (-e).toNat = 0 by omega, Nat.pow_zero, Nat.div_one, show (e + K).toNat = e.toNat + K by omega]
    exact (pow_cut _ _ K).symm
  · rw [show e.toNat = 0 by omega, Nat.pow_zero, Nat.mul_one]
    conv => rhs; rw [show (2 ^ K : Nat) = 2 ^ (-e).toNat * 2 ^ (e + K).toNat by rw [← Nat.pow_add]; congr 1; omega]
    rw [Nat.mul_div_mul_right _ _ (Nat.two_pow_pos _)]

theorem toInt_int {z : Int} (h : z.natAbs ≤ 9007199254740992) : (double.read (FloatKind.f64.nearest z)).toInt .zero = some z := by
  obtain ⟨s, m, e, hr, hu⟩ := of_int z h
  have hp := read_place hr
  rw [hr] at hu ⊢
  rw [toInt_num]
  have hp2 : -((1074 : Nat) : Int) ≤ e := by omega
  obtain ⟨P, hP⟩ : ∃ P : Nat, P = 2 ^ 1074 := ⟨_, rfl⟩
  obtain ⟨K, hK⟩ : ∃ K : Nat, K = 1074 := ⟨_, rfl⟩
  have hPK : P = 2 ^ K := by
    subst hK
    exact hP
  have hq := quot_same m e P K hPK (by rw [hK]; exact hp2)
  rw [hq]
  have hpos : 0 < P := by rw [hPK]; exact Nat.two_pow_pos _
  unfold U at hu
  rw [sc_nat, ← hP] at hu
  clear hP hq hPK
  cases s with
  | false =>
    simp only [signed_false] at hu
    rw [show (e + 1074).toNat = (e + (K : Int)).toNat by rw [hK]; rfl] at hu
    generalize m * 2 ^ (e + (K : Int)).toNat = A at hu ⊢
    have hz : 0 ≤ z := by
      rcases Int.lt_or_le z 0 with h1 | h1
      · exfalso
        have h2 : z * (P : Int) ≤ (-1) * (P : Int) := Int.mul_le_mul_of_nonneg_right (by omega) (by omega)
        omega
      · exact h1
    obtain ⟨n, rfl⟩ := Int.eq_ofNat_of_zero_le hz
    rw [← Int.natCast_mul] at hu
    have hu : A = n * P := Int.ofNat.inj hu
    rw [hu, Nat.mul_div_cancel _ hpos, signed_false]
    simp
  | true =>
    simp only [signed_true] at hu
    rw [show (e + 1074).toNat = (e + (K : Int)).toNat by rw [hK]; rfl] at hu
    generalize m * 2 ^ (e + (K : Int)).toNat = A at hu ⊢
    have hz : 0 ≤ -z := by
      rcases Int.lt_or_le 0 z with h1 | h1
      · exfalso
        have h2 : 1 * (P : Int) ≤ z * (P : Int) := Int.mul_le_mul_of_nonneg_right (by omega) (by omega)
        omega
      · omega
    obtain ⟨n, hn⟩ := Int.eq_ofNat_of_zero_le hz
    have hz2 : z = -(n : Int) := by omega
    subst hz2
    rw [Int.neg_mul, ← Int.natCast_mul] at hu
    have hu : A = n * P := by omega
    rw [hu, Nat.mul_div_cancel _ hpos, signed_true]
    simp
theorem val_int {z : Int} (h : z.natAbs ≤ 9007199254740992) : floatToIntVal .f64 (FloatKind.f64.nearest z) .i64 = some z := by
  unfold floatToIntVal
  rw [decode_eq, toInt_int h]
  have e1 : IntKind.i64.min = -9223372036854775808 := by decide
  have e2 : IntKind.i64.max = 9223372036854775807 := by decide
  simp only
  rw [if_pos (by omega)]
end Go.Fl
