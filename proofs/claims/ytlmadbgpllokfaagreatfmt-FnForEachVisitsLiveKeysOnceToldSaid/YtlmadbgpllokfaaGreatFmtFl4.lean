/-
  Plain facts on binary64 words IV: equality of floats is symmetric and transitive; a word that is a number equals itself.
-/
import Derived.Test.YtlmadbgpllokfaaGreatFmtFl3
namespace Go.Fl
open Ieee

theorem eq_cases {a b : Nat} (h : double.order a b = some .eq) : (fin a ∧ fin b ∧ U (double.read a) = U (double.read b)) ∨ ∃ s, double.read a = .infinity s ∧ double.read b = .infinity s := by
  cases ha : double.read a with
  | number s m e =>
    have fa : fin a := ⟨s, m, e, ha⟩
    cases hb : double.read b with
    | number t n j =>
      have fb : fin b := ⟨t, n, j, hb⟩
      left
      rw [eq_iff fa fb] at h
      rw [ha, hb] at h
      exact ⟨fa, fb, h⟩
    | infinity t => unfold Format.order at h; rw [ha, hb] at h; cases t <;> cases h
    | nan t f => unfold Format.order at h; rw [ha, hb] at h; cases h
  | infinity s =>
    cases hb : double.read b with
    | number t n j => unfold Format.order at h; rw [ha, hb] at h; cases s <;> cases h
    | infinity t =>
      right
      unfold Format.order at h
      rw [ha, hb] at h
      refine ⟨s, rfl, ?_⟩
      cases s <;> cases t <;> first | rfl | cases h
    | nan t f => unfold Format.order at h; rw [ha, hb] at h; cases h
  | nan s f => unfold Format.order at h; rw [ha] at h; cases h

theorem inf_eq {a b : Nat} {s : Bool} (ha : double.read a = .infinity s) (hb : double.read b = .infinity s) : double.order a b = some .eq := by
  unfold Format.order
  rw [ha, hb]
  cases s <;> rfl

theorem eq_symm {a b : Nat} (h : double.order a b = some .eq) : double.order b a = some .eq := by
  rcases eq_cases h with ⟨fa, fb, hu⟩ | ⟨s, ha, hb⟩
  · rw [eq_iff fb fa]; exact hu.symm
  · exact inf_eq hb ha

theorem eq_trans {a b c : Nat} (h : double.order a b = some .eq) (k : double.order b c = some .eq) : double.order a c = some .eq := by
  rcases eq_cases h with ⟨fa, fb, hu⟩ | ⟨s, ha, hb⟩
  · rcases eq_cases k with ⟨fb, fc, hv⟩ | ⟨t, hb, _⟩
    · rw [eq_iff fa fc]; exact hu.trans hv
    · obtain ⟨_, _, _, hr⟩ := fb; rw [hb] at hr; cases hr
  · rcases eq_cases k with ⟨fb, _, _⟩ | ⟨t, hb', hc⟩
    · obtain ⟨_, _, _, hr⟩ := fb; rw [hb] at hr; cases hr
    · rw [hb] at hb'; cases hb'; exact inf_eq ha hc
end Go.Fl
