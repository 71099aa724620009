/- What the two laws on LVAsString compute, walked: true, and nothing that was there has changed. -/
import Derived.Test.YtnmjidkbaohliaaGreatFmtFacts
namespace Go.Proofs.YtnmjidkbaohliaaGreatFmt
open Go.RowKit


set_option maxHeartbeats 400000 in
theorem asStringTable_long (k : Int) (b : Bool) (s : ByteArray) (w : World) (hs : 1048576 < s.size) (hm : s.size ≤ 9223372036854775807) :
    Calls Tryz.prog 3 #[.int .i64 k, .bool b, .string s] w (Good w) := by
  go_enter Tryz.func3, Tryz.ntmps3
  go_wp2
  go_ret
  exact ⟨rfl, Below.refl _ _⟩

set_option maxHeartbeats 400000 in
theorem asStringTable_out (k : Int) (b : Bool) (s : ByteArray) (w : World) (hs : s.size ≤ 1048576) (hk : k < 0 ∨ 6 < k ∨ k = 3) :
    Calls Tryz.prog 3 #[.int .i64 k, .bool b, .string s] w (Good w) := by
  rcases hk with hk | hk | rfl
  all_goals
    go_enter Tryz.func3, Tryz.ntmps3
    go_wp2
    go_ret
    exact ⟨rfl, Below.refl _ _⟩

set_option maxRecDepth 100000 in
set_option maxHeartbeats 400000 in
theorem asStringTable_in (k : Int) (b : Bool) (s : ByteArray) (w : World) (hs : s.size ≤ 1048576) (hk : k = 0 ∨ k = 1 ∨ k = 2 ∨ k = 4 ∨ k = 5 ∨ k = 6) :
    Calls Tryz.prog 3 #[.int .i64 k, .bool b, .string s] w (Good w) := by
  rcases hk with rfl | rfl | rfl | rfl | rfl | rfl
  all_goals
    go_enter Tryz.func3, Tryz.ntmps3
    go_wp2
    go_ret
    first
      | exact ⟨rfl, Below.refl _ _⟩
      | exact ⟨rfl, (Below.refl _ _).alloc (Nat.le_refl _) _⟩

set_option maxHeartbeats 400000 in
theorem asStringAgrees_long (k : Int) (b : Bool) (s : ByteArray) (w : World) (hs : 1048576 < s.size) (hm : s.size ≤ 9223372036854775807) :
    Calls Tryz.prog 4 #[.int .i64 k, .bool b, .string s] w (Good w) := by
  go_enter Tryz.func4, Tryz.ntmps4
  go_wp2
  go_ret
  exact ⟨rfl, Below.refl _ _⟩

set_option maxHeartbeats 400000 in
theorem asStringAgrees_out (k : Int) (b : Bool) (s : ByteArray) (w : World) (hs : s.size ≤ 1048576) (hk : k < 0 ∨ 6 < k ∨ k = 3) :
    Calls Tryz.prog 4 #[.int .i64 k, .bool b, .string s] w (Good w) := by
  rcases hk with hk | hk | rfl
  all_goals
    go_enter Tryz.func4, Tryz.ntmps4
    go_wp2
    go_ret
    exact ⟨rfl, Below.refl _ _⟩

set_option maxRecDepth 100000 in
set_option maxHeartbeats 400000 in
theorem asStringAgrees_in (k : Int) (b : Bool) (s : ByteArray) (w : World) (hs : s.size ≤ 1048576) (hk : k = 0 ∨ k = 1 ∨ k = 2 ∨ k = 4 ∨ k = 5 ∨ k = 6) :
    Calls Tryz.prog 4 #[.int .i64 k, .bool b, .string s] w (Good w) := by
  rcases hk with rfl | rfl | rfl | rfl | rfl | rfl
  all_goals
    go_enter Tryz.func4, Tryz.ntmps4
    go_wp2
    go_ret
    first
      | exact ⟨rfl, Below.refl _ _⟩
      | exact ⟨rfl, (Below.refl _ _).alloc (Nat.le_refl _) _⟩
      | exact ⟨rfl, ((Below.refl _ _).alloc (Nat.le_refl _) _).alloc (by simp) _⟩

end Go.Proofs.YtnmjidkbaohliaaGreatFmt
