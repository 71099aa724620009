/- Which words that name an array slot pass the program's guard on stores. -/
import Derived.Test.YtlmadbgpllokfaaGreatFmtFl5
namespace Go.Fl
open Ieee
theorem near_65536 : FloatKind.f64.nearest 65536 = 4679240012837945344 := by decide +kernel
theorem near_67108864 : FloatKind.f64.nearest 67108864 = 4724276009111650304 := by decide +kernel
theorem akey_gt {b k : Nat} (h : akey b = some k) (hk : 65536 < k) : double.order b (FloatKind.f64.nearest 65536) = some .gt := by
  obtain ⟨hf, hu, _, _⟩ := akey_some h
  rw [gt_iff hf (fin_of_int (by decide)), U_of_int (by decide), hu]
  exact Int.mul_lt_mul_of_pos_right (by omega) sc_pos
theorem akey_lt {b k : Nat} (h : akey b = some k) : double.order b (FloatKind.f64.nearest 67108864) = some .lt := by
  obtain ⟨hf, hu, _, h2⟩ := akey_some h
  rw [lt_iff hf (fin_of_int (by decide)), U_of_int (by decide), hu]
  exact Int.mul_lt_mul_of_pos_right (by omega) sc_pos
theorem akey_self {b k : Nat} (h : akey b = some k) : double.order b (FloatKind.f64.nearest k) = some .eq := by
  obtain ⟨hf, hu, _, h2⟩ := akey_some h
  rw [eq_iff hf (fin_of_int (by omega)), U_of_int (by omega), hu]
/-- Between 65536 and 67108864 the program's cut is a number. -/
theorem between_val {b : Nat} (h1 : double.order b (FloatKind.f64.nearest 65536) = some .gt) (h2 : double.order b (FloatKind.f64.nearest 67108864) = some .lt) : ∃ z : Int, floatToIntVal .f64 b .i64 = some z := by
  have hf := fin_between (fin_of_int (by decide)) (fin_of_int (by decide)) h1 h2
  have h0 : double.order b (FloatKind.f64.nearest 0) = some .gt := by
    rw [gt_iff hf (fin_of_int (by decide)), U_of_int (by decide)] at h1 ⊢
    have := sc_pos
    omega
  exact ⟨_, (val_of h0 h2).2.1⟩
end Go.Fl
