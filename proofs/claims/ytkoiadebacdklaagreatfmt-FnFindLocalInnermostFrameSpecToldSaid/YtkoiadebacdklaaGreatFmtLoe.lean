/- FnFindLocalInnermostFrameSpec out of its bounds. -/
import Derived.Test.YtkoiadebacdklaaGreatFmtLoc
namespace Go.Proofs.YtkoiadebacdklaaGreatFmt
open Go.RowKit
set_option maxRecDepth 100000

set_option maxHeartbeats 1600000 in
theorem find_long (aR aI aB : Option Addr) (n cR u cI k cB : Nat) (p0 lb top no : Int) (g : Bool) (s : Nat → ByteArray) (w : World) (h0 : n ≤ 9223372036854775807) (h1 : u ≤ 9223372036854775807) (h2 : k ≤ 9223372036854775807)
    (hl : ¬ (n ≤ 4096 ∧ u ≤ 4096 ∧ k ≤ 4096)) (hR : Cells w aR n fun j => .string (s j)) :
    Calls Tryz.prog 4 #[.slice aR n cR, .slice aI u cI, .slice aB k cB, .int .i64 p0, .int .i64 lb, .int .i64 top, .int .i64 no, .bool g] w (Good w) := by
  have HR := Lib.hid hR
  clear hR
  go_enter Tryz.func4, Tryz.ntmps4
  go_wp2_with fail
  refine (guard_find aR aI aB n cR u cI k cB p0 lb top no g s _ h0 h1 h2 HR.out).mono ?_
  rintro e w' ⟨b, rfl, rfl, hs⟩
  clear hs
  cases b with
  | false =>
    go_wp2
    go_ret
    exact ⟨rfl, Below.refl _ _⟩
  | true =>
    by_cases l0 : n ≤ 4096
    case neg =>
      go_wp2
      all_goals
        go_ret
        exact ⟨rfl, Below.refl _ _⟩
    by_cases l1 : u ≤ 4096
    case neg =>
      go_wp2
      all_goals
        go_ret
        exact ⟨rfl, Below.refl _ _⟩
    have l3 : ¬ k ≤ 4096 := fun h => hl ⟨l0, l1, h⟩
    clear hl
    go_wp2
    all_goals
      go_ret
      exact ⟨rfl, Below.refl _ _⟩
end Go.Proofs.YtkoiadebacdklaaGreatFmt
