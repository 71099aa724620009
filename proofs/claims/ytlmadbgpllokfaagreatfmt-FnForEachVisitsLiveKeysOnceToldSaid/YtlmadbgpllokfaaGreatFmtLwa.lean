/- The small functions of the laws on RawSetInt: walked. -/
import Derived.Test.YtlmadbgpllokfaaGreatFmtGet
import Derived.Test.YtlmadbgpllokfaaGreatFmtLast
import Derived.Test.YtlmadbgpllokfaaGreatFmtClonB
namespace Go.Proofs.YtlmadbgpllokfaaGreatFmt
open Go.RowKit Go.Mapy Go.Tbl
set_option maxRecDepth 100000

def numv (b : Nat) : Value := .iface 53 (.float .f64 b)

set_option maxHeartbeats 400000 in
theorem nil_type (w : World) : Calls Tryz.prog 230 #[.int .u8 0] w fun e w' => e = .returned (.int .i64 0) ∧ w = w' := by
  go_enter Tryz.func230, Tryz.ntmps230
  go_wp2
  go_ret
  exact ⟨rfl, rfl⟩

set_option maxHeartbeats 400000 in
theorem num_type (b : Nat) (w : World) : Calls Tryz.prog 228 #[.float .f64 b] w fun e w' => e = .returned (.int .i64 2) ∧ w = w' := by
  go_enter Tryz.func228, Tryz.ntmps228
  go_wp2
  go_ret
  exact ⟨rfl, rfl⟩

set_option maxHeartbeats 800000 in
theorem equals_num (L : Option Addr) (b : Nat) (w : World) (hb : (FloatKind.f64.format.order b b == some .eq) = true) : Calls Tryz.prog 66 #[.pointer L, numv b, numv b, .bool true] w fun e w' => e = .returned (.bool true) ∧ w = w' := by
  unfold numv
  go_enter Tryz.func66, Tryz.ntmps66
  go_wp2_with fail
  refine (num_type b _).mono ?_
  rintro e w' ⟨rfl, rfl⟩
  go_wp2_with fail
  refine (num_type b _).mono ?_
  rintro e w' ⟨rfl, rfl⟩
  go_wp2
  go_ret
  exact ⟨rfl, rfl⟩

set_option maxHeartbeats 400000 in
theorem raw_equal (L : Option Addr) (b : Nat) (w : World) (hb : (FloatKind.f64.format.order b b == some .eq) = true) : Calls Tryz.prog 35 #[.pointer L, numv b, numv b] w fun e w' => e = .returned (.bool true) ∧ w = w' := by
  go_enter Tryz.func35, Tryz.ntmps35
  go_wp2_with fail
  refine (equals_num L b _ hb).mono ?_
  rintro e w' ⟨rfl, rfl⟩
  go_wp2
  go_ret
  exact ⟨rfl, rfl⟩

set_option maxHeartbeats 400000 in
theorem min_three (a b c : Nat) (w : World) : Calls Tryz.prog 26 #[.int .i64 a, .int .i64 b, .int .i64 c] w fun e w' => e = .returned (.int .i64 ((min a (min b c) : Nat) : Int)) ∧ w = w' := by
  go_enter Tryz.func26, Tryz.ntmps26
  go_wp2
  all_goals (go_ret; first | (rw [show min a (min b c) = a by omega]; exact ⟨rfl, rfl⟩) | (rw [show min a (min b c) = b by omega]; exact ⟨rfl, rfl⟩) | (rw [show min a (min b c) = c by omega]; exact ⟨rfl, rfl⟩))

set_option maxHeartbeats 400000 in
theorem exact_int (k : Int) (w : World) : Calls Tryz.prog 70 #[.int .i64 k] w fun e w' => e = .returned (.bool (decide (k.natAbs ≤ 9007199254740992))) ∧ w = w' := by
  by_cases h1 : -9007199254740992 ≤ k
  · by_cases h2 : k ≤ 9007199254740992
    · rw [decide_eq_true (show k.natAbs ≤ 9007199254740992 by omega)]
      go_enter Tryz.func70, Tryz.ntmps70
      go_wp2
      go_ret
      exact ⟨rfl, rfl⟩
    · rw [decide_eq_false (show ¬ k.natAbs ≤ 9007199254740992 by omega)]
      go_enter Tryz.func70, Tryz.ntmps70
      go_wp2
      go_ret
      exact ⟨rfl, rfl⟩
  · rw [decide_eq_false (show ¬ k.natAbs ≤ 9007199254740992 by omega)]
    go_enter Tryz.func70, Tryz.ntmps70
    go_wp2
    go_ret
    exact ⟨rfl, rfl⟩

set_option maxHeartbeats 400000 in
theorem pad_ok (k : Int) (w : World) : Calls Tryz.prog 71 #[.int .i64 k] w fun e w' => e = .returned (.bool (decide (¬ (65536 < k ∧ k < 67108864)))) ∧ w = w' := by
  by_cases h1 : 65536 < k
  · by_cases h2 : k < 67108864
    · rw [decide_eq_false (show ¬ ¬ (65536 < k ∧ k < 67108864) by omega)]
      go_enter Tryz.func71, Tryz.ntmps71
      go_wp2
      go_ret
      exact ⟨rfl, rfl⟩
    · rw [decide_eq_true (show ¬ (65536 < k ∧ k < 67108864) by omega)]
      go_enter Tryz.func71, Tryz.ntmps71
      go_wp2
      go_ret
      exact ⟨rfl, rfl⟩
  · rw [decide_eq_true (show ¬ (65536 < k ∧ k < 67108864) by omega)]
    go_enter Tryz.func71, Tryz.ntmps71
    go_wp2
    go_ret
    exact ⟨rfl, rfl⟩

/-- The place of the last of the first n keys that is p; -1 if there is none. -/
def li (key : Nat → Int) (p : Int) (n : Nat) : Int := match Last.last (fun a b => decide (a = b)) key p n with
  | some j => (j : Int)
  | none => -1
theorem li_succ (key : Nat → Int) (p : Int) (n : Nat) : li key p (n + 1) = if p = key n then (n : Int) else li key p n := by
  unfold li
  rw [Last.last]
  by_cases h : p = key n
  · rw [if_pos (decide_eq_true h), if_pos h]
  · rw [if_neg (by simpa using h), if_neg h]

set_option maxHeartbeats 800000 in
theorem last_int (a : Option Addr) (K c n : Nat) (key : Nat → Int) (p : Int) (w : World) (hn : n ≤ K) (hK : K ≤ 4096) (hc : Cells w a K fun j => .int .i64 (key j)) :
    Calls Tryz.prog 52 #[.slice a K c, .int .i64 n, .int .i64 p] w fun e w' => e = .returned (.int .i64 (li key p n)) ∧ w = w' := by
  have HC := Lib.hid hc
  clear hc
  go_enter Tryz.func52, Tryz.ntmps52
  go_wp2
  go_loop [7, 8] (fun jv iv => ∃ m : Nat, m ≤ n ∧ iv = .int .i64 m ∧ jv = .int .i64 (li key p m)) (fun _ iv => n - (intOf iv).toNat)
  case atStart => exact ⟨0, Nat.zero_le _, rfl, rfl⟩
  case round =>
    obtain ⟨m, hm, rfl, rfl⟩ := hrel
    by_cases hlt : m < n
    · obtain ⟨b, off, rfl, hcell⟩ := HC.out.one (j := m) (by omega)
      have i1 : (0 : Int) ≤ (m : Int) := by omega
      have i2 : (m : Int) < (K : Int) := by omega
      by_cases hk : key m = p
      · have LI := Lib.hid (show li key p (m + 1) = (m : Int) by rw [li_succ, if_pos hk.symm])
        go_wp2
        go_round
        case rel => exact ⟨m + 1, by omega, by go_num, by rw [LI.out]⟩
        case measure => simp [intOf]; omega
      · have LI := Lib.hid (show li key p (m + 1) = li key p m by rw [li_succ, if_neg (fun h => hk h.symm)])
        go_wp2
        go_round
        case rel => exact ⟨m + 1, by omega, by go_num, by rw [LI.out]⟩
        case measure => simp [intOf]; omega
    · obtain rfl : m = n := by omega
      go_wp2
      go_ret
      exact ⟨rfl, rfl⟩
end Go.Proofs.YtlmadbgpllokfaaGreatFmt
