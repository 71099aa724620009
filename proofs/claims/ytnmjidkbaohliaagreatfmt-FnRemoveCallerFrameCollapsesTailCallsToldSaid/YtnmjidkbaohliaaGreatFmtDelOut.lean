/- FnRemoveCallerFrameDeletesCallerSlot outside its guards, walked. -/
import Derived.Test.YtnmjidkbaohliaaGreatFmtFrameIs
import Derived.Test.YtnmjidkbaohliaaGreatFmtClone
namespace Go.Proofs.YtnmjidkbaohliaaGreatFmt
open Go.RowKit
set_option maxRecDepth 100000

set_option maxHeartbeats 400000 in
theorem zz26_yes (a1 a2 a3 : Option Addr) (n1 n2 n3 c1 c2 c3 : Nat) (w : World) (h : n1 + n2 + n3 ≤ 1048576) :
    Calls Tryz.prog 26 #[.slice a1 n1 c1, .slice a2 n2 c2, .slice a3 n3 c3] w fun e w' => e = .returned (.bool true) ∧ w = w' := by
  have h1 : n1 ≤ 1048576 := by omega
  have h2 : n2 ≤ 1048576 := by omega
  have h3 : n3 ≤ 1048576 := by omega
  have h12 : n1 + n2 ≤ 1048576 := by omega
  go_enter Tryz.func26, Tryz.ntmps26
  go_wp2
  go_ret
  exact ⟨rfl, rfl⟩

set_option maxHeartbeats 400000 in
theorem zz26_no (a1 a2 a3 : Option Addr) (n1 n2 n3 c1 c2 c3 : Nat) (w : World) (m1 : n1 ≤ 9223372036854775807) (m2 : n2 ≤ 9223372036854775807) (m3 : n3 ≤ 9223372036854775807) (h : 1048576 < n1 + n2 + n3) :
    Calls Tryz.prog 26 #[.slice a1 n1 c1, .slice a2 n2 c2, .slice a3 n3 c3] w fun e w' => e = .returned (.bool false) ∧ w = w' := by
  go_enter Tryz.func26, Tryz.ntmps26
  go_wp2
  all_goals (go_ret; exact ⟨rfl, rfl⟩)

set_option maxHeartbeats 400000 in
theorem deletes_long (a1 a2 a3 : Option Addr) (n1 n2 n3 c1 c2 c3 : Nat) (w : World) (m1 : n1 ≤ 9223372036854775807) (m2 : n2 ≤ 9223372036854775807) (m3 : n3 ≤ 9223372036854775807) (h : 1048576 < n1 + n2 + n3) :
    Calls Tryz.prog 6 #[.slice a1 n1 c1, .slice a2 n2 c2, .slice a3 n3 c3] w (Good w) := by
  go_enter Tryz.func6, Tryz.ntmps6
  go_wp2_with (go_at_call 26; refine (zz26_no _ _ _ _ _ _ _ _ _ _ m1 m2 m3 h).mono ?_; rintro e w' ⟨rfl, rfl⟩)
  go_ret
  exact ⟨rfl, Below.refl _ _⟩

set_option maxHeartbeats 800000 in
theorem deletes_out (a1 a2 a3 : Option Addr) (n1 n2 n3 c1 c2 c3 : Nat) (w : World) (h : n1 + n2 + n3 ≤ 1048576) (ho : ¬ (n1 ≤ 4096 ∧ n2 = n1 ∧ n3 = n1 ∧ 2 ≤ n1)) :
    Calls Tryz.prog 6 #[.slice a1 n1 c1, .slice a2 n2 c2, .slice a3 n3 c3] w (Good w) := by
  go_enter Tryz.func6, Tryz.ntmps6
  go_wp2_with (first | (go_at_call 26; refine (zz26_yes _ _ _ _ _ _ _ _ _ _ h).mono ?_; rintro e w' ⟨rfl, rfl⟩) | (go_at_call 27; exfalso; omega))
  all_goals
    go_ret
    exact ⟨rfl, Below.refl _ _⟩
end Go.Proofs.YtnmjidkbaohliaaGreatFmt
