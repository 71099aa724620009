/-
  Plain facts on binary64 words III: the program's test for an array key.
-/
import Derived.Test.YtlmadbgpllokfaaGreatFmtFl2
namespace Go.Fl
open Ieee

theorem order_int {a b : Int} (ha : a.natAbs ≤ 9007199254740992) (hb : b.natAbs ≤ 9007199254740992) : double.order (FloatKind.f64.nearest a) (FloatKind.f64.nearest b) = some .eq ↔ a = b := by
  rw [eq_iff (fin_of_int ha) (fin_of_int hb), U_of_int ha, U_of_int hb]
  have hs := sc_pos
  exact ⟨fun h => Int.eq_of_mul_eq_mul_right (by omega) h, fun h => by rw [h]⟩

theorem akey_int {n : Int} (h : n.natAbs ≤ 9007199254740992) : akey (FloatKind.f64.nearest n) = if 1 ≤ n ∧ n < 67108864 then some n.toNat else none := by
  have hs := sc_pos
  by_cases hn : 1 ≤ n ∧ n < 67108864
  · rw [if_pos hn]
    exact akey_of (fin_of_int h) (by rw [U_of_int h, show ((n.toNat : Nat) : Int) = n by omega]) (by omega) (by omega)
  · rw [if_neg hn]
    cases hk : akey (FloatKind.f64.nearest n) with
    | none => rfl
    | some i =>
      exfalso
      obtain ⟨_, u, l1, l2⟩ := akey_some hk
      rw [U_of_int h] at u
      have := Int.eq_of_mul_eq_mul_right (by omega) u
      omega

/-- 2^63 as a word. -/
abbrev C63 : Nat := 4890909195324358656
theorem C63_gt : double.order (FloatKind.f64.nearest 67108864) C63 = some .lt := by decide +kernel
theorem C63_fin : fin C63 := ⟨false, 4503599627370496, 11, by decide +kernel⟩

theorem decode_eq (b : Nat) : FloatKind.f64.decode b = double.read b := rfl

/-- Where a word lies between 0 and 67108864 its cut is its units' quotient. -/
theorem val_of {b : Nat} (h1 : double.order b (FloatKind.f64.nearest 0) = some .gt) (h2 : double.order b (FloatKind.f64.nearest 67108864) = some .lt) :
    fin b ∧ floatToIntVal .f64 b .i64 = some (U (double.read b) / sc) ∧ 0 ≤ U (double.read b) / sc ∧ U (double.read b) / sc < 67108864 := by
  have hf := fin_between (fin_of_int (by decide)) (fin_of_int (by decide)) h1 h2
  rw [gt_iff hf (fin_of_int (by decide)), U_of_int (by decide)] at h1
  rw [lt_iff hf (fin_of_int (by decide)), U_of_int (by decide)] at h2
  have hs := sc_pos
  have q1 : 0 ≤ U (double.read b) / sc := Int.ediv_nonneg (by omega) (by omega)
  have q2 : U (double.read b) / sc < 67108864 := Int.ediv_lt_of_lt_mul hs h2
  refine ⟨hf, ?_, q1, q2⟩
  unfold floatToIntVal
  rw [decode_eq, trunc_pos hf (by omega)]
  have e1 : IntKind.i64.min = -9223372036854775808 := by decide
  have e2 : IntKind.i64.max = 9223372036854775807 := by decide
  simp only
  rw [if_pos (by omega)]

theorem key_val {b i : Nat} (h : akey b = some i) : floatToIntVal .f64 b .i64 = some (i : Int) := by
  obtain ⟨_, u, _, _⟩ := akey_some h
  unfold akey at h
  split at h
  · rename_i hh
    rw [(val_of hh.1 hh.2.1).2.1, u, Int.mul_ediv_cancel _ (by have := sc_pos; omega)]
  · cases h

/-- The program's four tests, whatever stands for int64(v) where the language fixes nothing. -/
theorem akey_bool (b : Nat) (t : Int) (ht : ∀ n, floatToIntVal .f64 b .i64 = some n → t = n) :
    ((double.order b (FloatKind.f64.nearest t) == some .eq) && ((double.order b C63 == some .lt) && ((double.order b (FloatKind.f64.nearest 0) == some .gt) && (double.order b (FloatKind.f64.nearest 67108864) == some .lt)))) = (akey b).isSome := by
  by_cases h1 : double.order b (FloatKind.f64.nearest 0) = some .gt
  · by_cases h2 : double.order b (FloatKind.f64.nearest 67108864) = some .lt
    · obtain ⟨hf, hv, q1, q2⟩ := val_of h1 h2
      obtain rfl := ht _ hv
      have h3 : double.order b C63 = some .lt := by
        have h4 := C63_gt
        rw [lt_iff (fin_of_int (by decide)) C63_fin] at h4
        rw [lt_iff hf (fin_of_int (by decide))] at h2
        rw [lt_iff hf C63_fin]
        omega
      rw [h1, h2, h3]
      unfold akey
      by_cases h5 : U (double.read b) = U (double.read b) / sc * sc
      · rw [if_pos ⟨h1, h2, h5⟩]
        have : double.order b (FloatKind.f64.nearest (U (double.read b) / sc)) = some .eq := by
          rw [eq_iff hf (fin_of_int (by omega)), U_of_int (by omega)]
          exact h5
        rw [this]; rfl
      · rw [if_neg (fun h => h5 h.2.2)]
        have : ¬ double.order b (FloatKind.f64.nearest (U (double.read b) / sc)) = some .eq := by
          rw [eq_iff hf (fin_of_int (by omega)), U_of_int (by omega)]
          exact h5
        simp [this]
    · unfold akey
      rw [if_neg (fun h => h2 h.2.1)]
      simp [h2]
  · unfold akey
    rw [if_neg (fun h => h1 h.1)]
    simp [h1]
end Go.Fl
