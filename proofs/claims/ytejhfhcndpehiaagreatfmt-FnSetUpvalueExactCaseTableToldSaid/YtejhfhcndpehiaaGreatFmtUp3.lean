/- The guards of the two n005_150 laws on upvalues, walked. -/
import Derived.Test.YtejhfhcndpehiaaGreatFmtUp2
namespace Go.Proofs.YtejhfhcndpehiaaGreatFmt
open Go.RowKit
set_option maxRecDepth 100000

/-- Some bool comes back; where it is true, no string is long. -/
def ToldUp (k n : Nat) (s t : Nat → ByteArray) (v : ByteArray) (w : World) (e : Ending) (w' : World) : Prop := ∃ b, e = .returned (.bool b) ∧ w = w' ∧ (b = true → (∀ j, j < k → (s j).size ≤ 1048576) ∧ (∀ j, j < n → (t j).size ≤ 1048576) ∧ v.size ≤ 1048576)
/-- Some number comes back. -/
def SomeNat (b : Nat) (w : World) (e : Ending) (w' : World) : Prop := ∃ z : Nat, z ≤ b ∧ e = .returned (.int .i64 z) ∧ w = w'

set_option maxHeartbeats 800000 in
theorem strs_bytes (a : Option Addr) (k c : Nat) (s : Nat → ByteArray) (w : World) (hk : k ≤ 65536) (hc : Cells w a k fun j => .string (s j)) (hs : ∀ j, j < k → (s j).size ≤ 1048576) :
    Calls Tryz.prog 31 #[.slice a k c] w (SomeNat 4194304 w) := by
  have HC := Lib.hid hc
  have HS := Lib.hid hs
  clear hc hs
  go_enter Tryz.func31, Tryz.ntmps31
  go_wp2
  go_loop [3, 4] (fun t i => ∃ (j : Nat) (z : Nat), j ≤ k ∧ z ≤ 2097152 ∧ i = .int .i64 j ∧ t = .int .i64 z) (fun _ i => k - (intOf i).toNat)
  case atStart => exact ⟨0, 16 * k, Nat.zero_le _, by omega, rfl, by go_num⟩
  case round =>
    obtain ⟨j, z, hj, hz, rfl, rfl⟩ := hrel
    by_cases hlt : j < k
    · obtain ⟨b, off, rfl, hcell⟩ := HC.out.one hlt
      have hsz := HS.out j hlt
      go_wp2
      · go_ret
        exact ⟨z + (s j).size, by omega, by go_num, rfl⟩
      · go_round
        case rel => exact ⟨j + 1, z + (s j).size, by omega, by omega, by go_num, by go_num⟩
        case measure => simp [intOf]; omega
    · obtain rfl : j = k := by omega
      go_wp2
      go_ret
      exact ⟨z, by omega, rfl, rfl⟩

set_option maxHeartbeats 400000 in
theorem min_int (a b : Nat) (w : World) :
    Calls Tryz.prog 33 #[.int .i64 a, .int .i64 b] w fun e w' => e = .returned (.int .i64 ((min a b : Nat) : Int)) ∧ w = w' := by
  by_cases h : a < b
  · rw [Nat.min_eq_left (by omega)]
    go_enter Tryz.func33, Tryz.ntmps33
    go_wp2
    go_ret
    exact ⟨rfl, rfl⟩
  · rw [Nat.min_eq_right (by omega)]
    go_enter Tryz.func33, Tryz.ntmps33
    go_wp2
    go_ret
    exact ⟨rfl, rfl⟩

set_option maxHeartbeats 1600000 in
theorem zzExact (aN aV : Option Addr) (k cN n cV : Nat) (s t : Nat → ByteArray) (no : Int) (v : ByteArray) (w : World) (hkm : k ≤ 9223372036854775807) (hnm : n ≤ 9223372036854775807) (hN : Cells w aN k fun j => .string (s j)) (hV : Cells w aV n fun j => .string (t j)) :
    Calls Tryz.prog 30 #[.slice aN k cN, .slice aV n cV, .int .i64 no, .string v] w (ToldUp k n s t v w) := by
  have HN := Lib.hid hN
  have HV := Lib.hid hV
  clear hN hV
  by_cases hk : k ≤ 1048576
  · go_enter Tryz.func30, Tryz.ntmps30
    go_wp2
    go_loop [9, 10] (fun t i => ∃ (j : Nat) (z : Nat), j ≤ k ∧ z ≤ 1048576 ∧ i = .int .i64 j ∧ t = .int .i64 z ∧ ∀ m, m < j → (s m).size ≤ 1048576) (fun _ i => k - (intOf i).toNat)
    case atStart => exact ⟨0, k, Nat.zero_le _, hk, rfl, rfl, fun m hm => absurd hm (by omega)⟩
    case round =>
      obtain ⟨j, z, hj, hz, rfl, rfl, hs⟩ := hrel
      have HS := Lib.hid hs
      clear hs
      by_cases hlt : j < k
      · obtain ⟨b, off, rfl, hc⟩ := HN.out.one hlt
        by_cases hsz : (s j).size ≤ 1048576
        · go_wp2
          · go_ret
            exact ⟨false, rfl, rfl, fun h => by cases h⟩
          · go_round
            case rel =>
              refine ⟨j + 1, z + (s j).size, by omega, by omega, by go_num, by go_num, fun m hm => ?_⟩
              by_cases e : m = j
              · subst e; exact hsz
              · exact HS.out m (by omega)
            case measure => simp [intOf]; omega
        · go_wp2
          go_ret
          exact ⟨false, rfl, rfl, fun h => by cases h⟩
      · obtain rfl : j = k := by omega
        by_cases hn : n ≤ 1048576
        · go_wp2
          · go_ret
            exact ⟨false, rfl, rfl, fun h => by cases h⟩
          · go_loop [9, 11] (fun u i => ∃ (q : Nat) (y : Nat), q ≤ n ∧ y ≤ 1048576 ∧ i = .int .i64 q ∧ u = .int .i64 y ∧ ∀ m, m < q → (t m).size ≤ 1048576) (fun _ i => n - (intOf i).toNat)
            case atStart => exact ⟨0, z + n, Nat.zero_le _, by omega, rfl, by go_num, fun m hm => absurd hm (by omega)⟩
            case round =>
              obtain ⟨q, y, hq, hy, rfl, rfl, ht⟩ := hrel
              have HT := Lib.hid ht
              clear ht
              by_cases hlt2 : q < n
              · obtain ⟨b, off, rfl, hc⟩ := HV.out.one hlt2
                by_cases hsz : (t q).size ≤ 1048576
                · go_wp2
                  · go_ret
                    exact ⟨false, rfl, rfl, fun h => by cases h⟩
                  · go_round
                    case rel =>
                      refine ⟨q + 1, y + (t q).size, by omega, by omega, by go_num, by go_num, fun m hm => ?_⟩
                      by_cases e : m = q
                      · subst e; exact hsz
                      · exact HT.out m (by omega)
                    case measure => simp [intOf]; omega
                · go_wp2
                  go_ret
                  exact ⟨false, rfl, rfl, fun h => by cases h⟩
              · obtain rfl : q = n := by omega
                by_cases hv : v.size ≤ 1048576
                · go_wp2
                  all_goals
                    go_ret
                    exact ⟨_, rfl, rfl, fun _ => ⟨HS.out, HT.out, hv⟩⟩
                · go_wp2
                  go_ret
                  exact ⟨false, rfl, rfl, fun h => by cases h⟩
        · go_wp2
          go_ret
          exact ⟨false, rfl, rfl, fun h => by cases h⟩
  · go_enter Tryz.func30, Tryz.ntmps30
    go_wp2
    go_ret
    exact ⟨false, rfl, rfl, fun h => by cases h⟩

set_option maxHeartbeats 1600000 in
theorem zzShare (aN aV : Option Addr) (k cN n cV : Nat) (s t : Nat → ByteArray) (no : Int) (v : ByteArray) (w : World) (hkm : k ≤ 9223372036854775807) (hnm : n ≤ 9223372036854775807) (hN : Cells w aN k fun j => .string (s j)) (hV : Cells w aV n fun j => .string (t j)) :
    Calls Tryz.prog 40 #[.slice aN k cN, .slice aV n cV, .int .i64 no, .string v] w (ToldUp k n s t v w) := by
  have HN := Lib.hid hN
  have HV := Lib.hid hV
  clear hN hV
  by_cases hk : k ≤ 1048576
  · go_enter Tryz.func40, Tryz.ntmps40
    go_wp2
    go_loop [9, 10] (fun t i => ∃ (j : Nat) (z : Nat), j ≤ k ∧ z ≤ 1048576 ∧ i = .int .i64 j ∧ t = .int .i64 z ∧ ∀ m, m < j → (s m).size ≤ 1048576) (fun _ i => k - (intOf i).toNat)
    case atStart => exact ⟨0, k, Nat.zero_le _, hk, rfl, rfl, fun m hm => absurd hm (by omega)⟩
    case round =>
      obtain ⟨j, z, hj, hz, rfl, rfl, hs⟩ := hrel
      have HS := Lib.hid hs
      clear hs
      by_cases hlt : j < k
      · obtain ⟨b, off, rfl, hc⟩ := HN.out.one hlt
        by_cases hsz : (s j).size ≤ 1048576
        · go_wp2
          · go_ret
            exact ⟨false, rfl, rfl, fun h => by cases h⟩
          · go_round
            case rel =>
              refine ⟨j + 1, z + (s j).size, by omega, by omega, by go_num, by go_num, fun m hm => ?_⟩
              by_cases e : m = j
              · subst e; exact hsz
              · exact HS.out m (by omega)
            case measure => simp [intOf]; omega
        · go_wp2
          go_ret
          exact ⟨false, rfl, rfl, fun h => by cases h⟩
      · obtain rfl : j = k := by omega
        by_cases hn : n ≤ 1048576
        · go_wp2
          · go_ret
            exact ⟨false, rfl, rfl, fun h => by cases h⟩
          · go_loop [9, 11] (fun u i => ∃ (q : Nat) (y : Nat), q ≤ n ∧ y ≤ 1048576 ∧ i = .int .i64 q ∧ u = .int .i64 y ∧ ∀ m, m < q → (t m).size ≤ 1048576) (fun _ i => n - (intOf i).toNat)
            case atStart => exact ⟨0, z + n, Nat.zero_le _, by omega, rfl, by go_num, fun m hm => absurd hm (by omega)⟩
            case round =>
              obtain ⟨q, y, hq, hy, rfl, rfl, ht⟩ := hrel
              have HT := Lib.hid ht
              clear ht
              by_cases hlt2 : q < n
              · obtain ⟨b, off, rfl, hc⟩ := HV.out.one hlt2
                by_cases hsz : (t q).size ≤ 1048576
                · go_wp2
                  · go_ret
                    exact ⟨false, rfl, rfl, fun h => by cases h⟩
                  · go_round
                    case rel =>
                      refine ⟨q + 1, y + (t q).size, by omega, by omega, by go_num, by go_num, fun m hm => ?_⟩
                      by_cases e : m = q
                      · subst e; exact hsz
                      · exact HT.out m (by omega)
                    case measure => simp [intOf]; omega
                · go_wp2
                  go_ret
                  exact ⟨false, rfl, rfl, fun h => by cases h⟩
              · obtain rfl : q = n := by omega
                by_cases hv : v.size ≤ 1048576
                · go_wp2
                  all_goals
                    go_ret
                    exact ⟨_, rfl, rfl, fun _ => ⟨HS.out, HT.out, hv⟩⟩
                · go_wp2
                  go_ret
                  exact ⟨false, rfl, rfl, fun h => by cases h⟩
        · go_wp2
          go_ret
          exact ⟨false, rfl, rfl, fun h => by cases h⟩
  · go_enter Tryz.func40, Tryz.ntmps40
    go_wp2
    go_ret
    exact ⟨false, rfl, rfl, fun h => by cases h⟩
end Go.Proofs.YtejhfhcndpehiaaGreatFmt
