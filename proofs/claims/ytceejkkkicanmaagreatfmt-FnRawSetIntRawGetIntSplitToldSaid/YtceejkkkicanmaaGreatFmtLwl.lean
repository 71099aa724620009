/- FnRawSetIntLastWriteWins out of its bounds. -/
import Derived.Test.YtceejkkkicanmaaGreatFmtLwi
namespace Go.Proofs.YtceejkkkicanmaaGreatFmt
open Go.RowKit
set_option maxRecDepth 100000

set_option maxHeartbeats 1600000 in
theorem lwi_long (aK aV aD aP : Option Addr) (nK cK nV cV nD cD nP cP : Nat) (w : World) (h0 : nK ≤ 9223372036854775807) (h1 : nV ≤ 9223372036854775807) (h2 : nD ≤ 9223372036854775807) (h3 : nP ≤ 9223372036854775807)
    (hl : ¬ (nK ≤ 4096 ∧ nV ≤ 4096 ∧ nD ≤ 4096 ∧ nP ≤ 4096)) :
    Calls Tryz.prog 4 #[.slice aK nK cK, .slice aV nV cV, .slice aD nD cD, .slice aP nP cP] w (Good w) := by
  go_enter Tryz.func4, Tryz.ntmps4
  go_wp2_with fail
  refine (guard_lwi aK aV aD aP nK cK nV cV nD cD nP cP _ h0 h1 h2 h3).mono ?_
  rintro e w' ⟨b, rfl, rfl⟩
  cases b with
  | false =>
    go_wp2
    go_ret
    exact ⟨rfl, Below.refl _ _⟩
  | true =>
    by_cases l0 : nK ≤ 4096
    case neg =>
      go_wp2
      all_goals
        go_ret
        exact ⟨rfl, Below.refl _ _⟩
    by_cases l1 : nV ≤ 4096
    case neg =>
      go_wp2
      all_goals
        go_ret
        exact ⟨rfl, Below.refl _ _⟩
    by_cases l2 : nD ≤ 4096
    case neg =>
      go_wp2
      all_goals
        go_ret
        exact ⟨rfl, Below.refl _ _⟩
    have l3 : ¬ nP ≤ 4096 := fun h => hl ⟨l0, l1, l2, h⟩
    clear hl
    go_wp2
    all_goals
      go_ret
      exact ⟨rfl, Below.refl _ _⟩
end Go.Proofs.YtceejkkkicanmaaGreatFmt
