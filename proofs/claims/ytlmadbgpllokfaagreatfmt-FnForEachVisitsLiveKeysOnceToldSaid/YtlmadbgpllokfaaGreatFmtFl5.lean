/- Every integer made a float equals itself. -/
import Derived.Test.YtlmadbgpllokfaaGreatFmtFl4
namespace Go.Fl
open Ieee
theorem read_any (neg : Bool) (rung : Nat) (h : rung ≤ 2047 * 4503599627370496) : fin (double.word neg rung) ∨ double.read (double.word neg rung) = .infinity neg := by
  by_cases h1 : 4503599627370496 ≤ rung
  · by_cases h2 : rung < 2047 * 4503599627370496
    · exact .inl ⟨_, _, _, read_word neg rung h1 h2⟩
    · obtain rfl : rung = 2047 * 4503599627370496 := by omega
      right
      cases neg <;> decide +kernel
  · left
    have e1 : double.word neg rung % double.signWeight = rung := by
      unfold Format.word; rw [sw]; cases neg <;> simp <;> omega
    unfold fin Format.read
    simp only [e1, bin]
    rw [if_pos (by omega)]
    exact ⟨_, _, _, rfl⟩
theorem near_self (n : Int) : double.order (FloatKind.f64.nearest n) (FloatKind.f64.nearest n) = some .eq := by
  have h : fin (FloatKind.f64.nearest n) ∨ ∃ s, double.read (FloatKind.f64.nearest n) = .infinity s := by
    show fin (double.nearest (n < 0) n.natAbs 0) ∨ ∃ s, double.read (double.nearest (n < 0) n.natAbs 0) = .infinity s
    unfold Format.nearest
    split
    · exact .inl ⟨_, _, _, read_zero _⟩
    · rcases read_any (decide (n < 0)) _ (Nat.le_trans (Nat.min_le_right _ _) (Nat.le_of_eq infr)) with h | h
      · exact .inl h
      · exact .inr ⟨_, h⟩
  rcases h with h | ⟨s, h⟩
  · exact (eq_iff h h).2 rfl
  · exact inf_eq h h
end Go.Fl
