/- The guards and small models of the two closing laws: walked. -/
import Derived.Test.YtkoiadebacdklaaGreatFmtUvf
import Derived.IntWalk
namespace Go.Proofs.YtkoiadebacdklaaGreatFmt
open Go.RowKit
set_option maxRecDepth 100000

/-- Some bool comes back; where it is true, the indices ascend below n. -/
def Prem (n u : Nat) (x : Nat → Int) (w : World) (e : Ending) (w' : World) : Prop := ∃ b, e = .returned (.bool b) ∧ Upd (fun _ => False) w w' ∧ (b = true → ∀ m, m < u → 0 ≤ x m ∧ x m < n ∧ (0 < m → x (m - 1) < x m))

set_option maxHeartbeats 1600000 in
theorem premise (aI aB : Option Addr) (n u cI k cB : Nat) (x y : Nat → Int) (w : World) (_hn : n ≤ 4096) (hu : u ≤ 4096) (hk : k ≤ 4096) (hI : Cells w aI u fun j => .int .i64 (x j)) (hB : Cells w aB k fun j => .int .i64 (y j)) :
    Calls Tryz.prog 27 #[.int .i64 n, .slice aI u cI, .slice aB k cB] w (Prem n u x w) := by
  have HI := Lib.hid hI
  have HB := Lib.hid hB
  clear hI hB
  go_enter Tryz.func27, Tryz.ntmps27
  go_wp2_with fail
  go_loopw [7] (fun i wr => ∃ j : Nat, j ≤ u ∧ i = .int .i64 j ∧ Upd (fun _ => False) w wr ∧ ∀ m, m < j → 0 ≤ x m ∧ x m < n ∧ (0 < m → x (m - 1) < x m)) (fun i _ => u - (intOf i).toNat)
  case atStart => exact ⟨0, Nat.zero_le _, rfl, Upd.refl _ _, fun m hm => absurd hm (by omega)⟩
  case round =>
    obtain ⟨j, hj, rfl, hu0, hlo⟩ := hrel
    have HU := Lib.hid hu0
    have HLO := Lib.hid hlo
    clear hlo hu0
    by_cases hlt : j < u
    · obtain ⟨b, off, rfl, hc⟩ := (HI.out.upd HU.out).one hlt
      by_cases h1 : x j < 0
      · go_wp2
        go_ret
        exact ⟨false, rfl, HU.out, fun h => by cases h⟩
      by_cases h2 : (n : Int) ≤ x j
      · go_wp2
        go_ret
        exact ⟨false, rfl, HU.out, fun h => by cases h⟩
      by_cases h0 : j = 0
      · subst h0
        rw [Nat.add_zero] at hc
        go_wp2
        go_quiet (fail)
        go_wp2
        go_roundw
        case rel =>
          refine ⟨1, by omega, by go_num, HU.out.drewN _, fun m hm => ?_⟩
          obtain rfl : m = 0 := by omega
          exact ⟨by omega, by omega, fun h => by omega⟩
        case measure => simp [intOf]; omega
      · obtain ⟨q, rfl⟩ : ∃ q, j = q + 1 := ⟨j - 1, by omega⟩
        obtain ⟨b', off', e', hc'⟩ := (HI.out.upd HU.out).one (show q < u by omega)
        obtain ⟨rfl, rfl⟩ : b = b' ∧ off = off' := by cases e'; exact ⟨rfl, rfl⟩
        clear e'
        have hw1 : IntKind.i64.wrap ((q : Int) + 1 - 1) = (q : Int) := by rw [IntWalk.i64_in _ (by omega)]; omega
        have hq0 : (0 : Int) < (q : Int) + 1 := by omega
        by_cases h3 : x (q + 1) ≤ x q
        · go_wp2
          go_quiet (fail)
          go_wp2
          go_ret
          exact ⟨false, rfl, HU.out.drewN _, fun h => by cases h⟩
        · go_wp2
          go_quiet (fail)
          go_wp2
          go_roundw
          case rel =>
            refine ⟨q + 1 + 1, by omega, by go_num, HU.out.drewN _, fun m hm => ?_⟩
            by_cases e : m = q + 1
            · subst e
              exact ⟨by omega, by omega, fun _ => by rw [Nat.add_sub_cancel]; omega⟩
            · exact HLO.out m (by omega)
          case measure => simp [intOf]; omega
    · obtain rfl : j = u := by omega
      go_wp2_with fail
      go_loopw [8] (fun i wq => ∃ q : Nat, q ≤ k ∧ i = .int .i64 q ∧ Upd (fun _ => False) w wq) (fun i _ => k - (intOf i).toNat)
      case atStart => exact ⟨0, Nat.zero_le _, rfl, HU.out⟩
      case round =>
        obtain ⟨q, hq, rfl, hu2⟩ := hrel
        have HU2 := Lib.hid hu2
        clear hu2
        by_cases hlt : q < k
        · obtain ⟨b, off, rfl, hc⟩ := (HB.out.upd HU2.out).one hlt
          by_cases h1 : y q < 0
          · go_wp2
            go_ret
            exact ⟨false, rfl, HU2.out, fun h => by cases h⟩
          by_cases h2 : (n : Int) < y q
          · go_wp2
            go_ret
            exact ⟨false, rfl, HU2.out, fun h => by cases h⟩
          by_cases h0 : q = 0
          · subst h0
            rw [Nat.add_zero] at hc
            go_wp2
            go_quiet (fail)
            go_wp2
            go_roundw
            case rel => exact ⟨1, by omega, by go_num, HU2.out.drewN _⟩
            case measure => simp [intOf]; omega
          · obtain ⟨p, rfl⟩ : ∃ p, q = p + 1 := ⟨q - 1, by omega⟩
            obtain ⟨b', off', e', hc'⟩ := (HB.out.upd HU2.out).one (show p < k by omega)
            obtain ⟨rfl, rfl⟩ : b = b' ∧ off = off' := by cases e'; exact ⟨rfl, rfl⟩
            clear e'
            have hw1 : IntKind.i64.wrap ((p : Int) + 1 - 1) = (p : Int) := by rw [IntWalk.i64_in _ (by omega)]; omega
            have hp0 : (0 : Int) < (p : Int) + 1 := by omega
            by_cases h3 : y (p + 1) < y p
            · go_wp2
              go_quiet (fail)
              go_wp2
              go_ret
              exact ⟨false, rfl, HU2.out.drewN _, fun h => by cases h⟩
            · go_wp2
              go_quiet (fail)
              go_wp2
              go_roundw
              case rel => exact ⟨p + 1 + 1, by omega, by go_num, HU2.out.drewN _⟩
              case measure => simp [intOf]; omega
        · obtain rfl : q = k := by omega
          go_wp2
          go_ret
          exact ⟨true, rfl, HU2.out, fun _ => HLO.out⟩

set_option maxHeartbeats 800000 in
theorem str_bytes (a : Option Addr) (k c : Nat) (s : Nat → ByteArray) (w : World) (hk : k ≤ 4096) (hc : Cells w a k fun j => .string (s j)) (hs : ∀ j, j < k → (s j).size ≤ 1048576) :
    Calls Tryz.prog 12 #[.slice a k c] w (SomeNat 4295032832 w) := by
  have HC := Lib.hid hc
  have HS := Lib.hid hs
  clear hc hs
  go_enter Tryz.func12, Tryz.ntmps12
  go_wp2_with fail
  go_loop [3, 4] (fun t i => ∃ (j : Nat) (z : Nat), j ≤ k ∧ z ≤ 65536 + 1048576 * j ∧ i = .int .i64 j ∧ t = .int .i64 z) (fun _ i => k - (intOf i).toNat)
  case atStart => exact ⟨0, 16 * k, Nat.zero_le _, by omega, rfl, by go_num⟩
  case round =>
    obtain ⟨j, z, hj, hz, rfl, rfl⟩ := hrel
    by_cases hlt : j < k
    · obtain ⟨b, off, rfl, hcell⟩ := HC.out.one hlt
      have hsz := HS.out j hlt
      go_wp2
      go_round
      case rel => exact ⟨j + 1, z + (s j).size, by omega, by omega, by go_num, by go_num⟩
      case measure => simp [intOf]; omega
    · obtain rfl : j = k := by omega
      go_wp2
      go_ret
      exact ⟨z, by omega, rfl, rfl⟩

/-- Some bool comes back; where it is true, no string is long. -/
def ToldS (k : Nat) (s : Nat → ByteArray) (w : World) (e : Ending) (w' : World) : Prop := ∃ b, e = .returned (.bool b) ∧ w = w' ∧ (b = true → ∀ j, j < k → (s j).size ≤ 1048576)

set_option maxHeartbeats 1600000 in
theorem guard_keeps (aR aI aB aG : Option Addr) (n cR u cI k cB q cG : Nat) (s : Nat → ByteArray) (w : World) (h0 : n ≤ 9223372036854775807) (h1 : u ≤ 9223372036854775807) (h2 : k ≤ 9223372036854775807) (h3 : q ≤ 9223372036854775807) (hR : Cells w aR n fun j => .string (s j)) :
    Calls Tryz.prog 30 #[.slice aR n cR, .slice aI u cI, .slice aB k cB, .slice aG q cG] w (ToldS n s w) := by
  have HR := Lib.hid hR
  clear hR
  by_cases hn : n ≤ 1048576
  · go_enter Tryz.func30, Tryz.ntmps30
    go_wp2
    go_loop [9, 10] (fun t i => ∃ (j : Nat) (z : Nat), j ≤ n ∧ z ≤ 1048576 ∧ i = .int .i64 j ∧ t = .int .i64 z ∧ ∀ m, m < j → (s m).size ≤ 1048576) (fun _ i => n - (intOf i).toNat)
    case atStart => exact ⟨0, n, Nat.zero_le _, hn, rfl, rfl, fun m hm => absurd hm (by omega)⟩
    case round =>
      obtain ⟨j, z, hj, hz, rfl, rfl, hs⟩ := hrel
      have HS := Lib.hid hs
      clear hs
      by_cases hlt : j < n
      · obtain ⟨b, off, rfl, hc⟩ := HR.out.one hlt
        by_cases hsz : (s j).size ≤ 1048576
        · go_wp2
          · go_ret
            exact ⟨false, rfl, rfl, fun h => by cases h⟩
          · go_round
            case rel =>
              refine ⟨j + 1, z + (s j).size, by omega, by omega, by go_num, by go_num, fun m hm => ?_⟩
              by_cases e : m = j
              · subst e; exact hsz
              · exact HS.out m (by omega)
            case measure => simp [intOf]; omega
        · go_wp2
          go_ret
          exact ⟨false, rfl, rfl, fun h => by cases h⟩
      · obtain rfl : j = n := by omega
        by_cases hu : u ≤ 1048576
        case neg =>
          go_wp2
          go_ret
          exact ⟨false, rfl, rfl, fun h => by cases h⟩
        by_cases hk : k ≤ 1048576
        case neg =>
          go_wp2
          all_goals
            go_ret
            exact ⟨false, rfl, rfl, fun h => by cases h⟩
        by_cases hq : q ≤ 1048576
        case neg =>
          go_wp2
          all_goals
            go_ret
            exact ⟨false, rfl, rfl, fun h => by cases h⟩
        go_wp2
        all_goals
          go_ret
          exact ⟨_, rfl, rfl, fun _ => HS.out⟩
  · go_enter Tryz.func30, Tryz.ntmps30
    go_wp2
    go_ret
    exact ⟨false, rfl, rfl, fun h => by cases h⟩

set_option maxHeartbeats 1600000 in
theorem guard_idem (aR aI aB aG : Option Addr) (n cR u cI k cB q cG : Nat) (s : Nat → ByteArray) (w : World) (h0 : n ≤ 9223372036854775807) (h1 : u ≤ 9223372036854775807) (h2 : k ≤ 9223372036854775807) (h3 : q ≤ 9223372036854775807) (hR : Cells w aR n fun j => .string (s j)) :
    Calls Tryz.prog 35 #[.slice aR n cR, .slice aI u cI, .slice aB k cB, .slice aG q cG] w (ToldS n s w) := by
  have HR := Lib.hid hR
  clear hR
  by_cases hn : n ≤ 1048576
  · go_enter Tryz.func35, Tryz.ntmps35
    go_wp2
    go_loop [9, 10] (fun t i => ∃ (j : Nat) (z : Nat), j ≤ n ∧ z ≤ 1048576 ∧ i = .int .i64 j ∧ t = .int .i64 z ∧ ∀ m, m < j → (s m).size ≤ 1048576) (fun _ i => n - (intOf i).toNat)
    case atStart => exact ⟨0, n, Nat.zero_le _, hn, rfl, rfl, fun m hm => absurd hm (by omega)⟩
    case round =>
      obtain ⟨j, z, hj, hz, rfl, rfl, hs⟩ := hrel
      have HS := Lib.hid hs
      clear hs
      by_cases hlt : j < n
      · obtain ⟨b, off, rfl, hc⟩ := HR.out.one hlt
        by_cases hsz : (s j).size ≤ 1048576
        · go_wp2
          · go_ret
            exact ⟨false, rfl, rfl, fun h => by cases h⟩
          · go_round
            case rel =>
              refine ⟨j + 1, z + (s j).size, by omega, by omega, by go_num, by go_num, fun m hm => ?_⟩
              by_cases e : m = j
              · subst e; exact hsz
              · exact HS.out m (by omega)
            case measure => simp [intOf]; omega
        · go_wp2
          go_ret
          exact ⟨false, rfl, rfl, fun h => by cases h⟩
      · obtain rfl : j = n := by omega
        by_cases hu : u ≤ 1048576
        case neg =>
          go_wp2
          go_ret
          exact ⟨false, rfl, rfl, fun h => by cases h⟩
        by_cases hk : k ≤ 1048576
        case neg =>
          go_wp2
          all_goals
            go_ret
            exact ⟨false, rfl, rfl, fun h => by cases h⟩
        by_cases hq : q ≤ 1048576
        case neg =>
          go_wp2
          all_goals
            go_ret
            exact ⟨false, rfl, rfl, fun h => by cases h⟩
        go_wp2
        all_goals
          go_ret
          exact ⟨_, rfl, rfl, fun _ => HS.out⟩
  · go_enter Tryz.func35, Tryz.ntmps35
    go_wp2
    go_ret
    exact ⟨false, rfl, rfl, fun h => by cases h⟩

/-- The lowest base of a Lua frame, if there is one. -/
def Low (k : Nat) (lb : Nat → Int) (g : Nat → Bool) (w : World) (e : Ending) (w' : World) : Prop := ∃ (b : Bool) (x : Int), e = .returned (.tuple #[.bool b, .int .i64 x]) ∧ w = w' ∧ ∀ z : Int, (b = true ∧ x ≤ z) ↔ ∃ j, j < k ∧ g j = false ∧ lb j ≤ z

set_option maxHeartbeats 800000 in
theorem lowest (aB aG : Option Addr) (k cB cG : Nat) (lb : Nat → Int) (g : Nat → Bool) (w : World) (hk : k ≤ 4096) (hB : Cells w aB k fun j => .int .i64 (lb j)) (hG : Cells w aG k fun j => .bool (g j)) :
    Calls Tryz.prog 34 #[.slice aB k cB, .slice aG k cG] w (Low k lb g w) := by
  have HB := Lib.hid hB
  have HG := Lib.hid hG
  clear hB hG
  go_enter Tryz.func34, Tryz.ntmps34
  go_wp2_with fail
  go_loop [6, 7, 8] (fun b x i => ∃ (j : Nat) (bb : Bool) (xx : Int), j ≤ k ∧ i = .int .i64 j ∧ b = .bool bb ∧ x = .int .i64 xx ∧ ∀ z : Int, (bb = true ∧ xx ≤ z) ↔ ∃ m, m < j ∧ g m = false ∧ lb m ≤ z) (fun _ _ i => k - (intOf i).toNat)
  case atStart => exact ⟨0, false, 0, Nat.zero_le _, rfl, rfl, rfl, fun z => ⟨fun h => (by cases h.1), fun ⟨m, h, _⟩ => (by omega)⟩⟩
  case round =>
    obtain ⟨j, bb, xx, hj, rfl, rfl, rfl, hz⟩ := hrel
    have HZ := Lib.hid hz
    clear hz
    by_cases hlt : j < k
    · obtain ⟨b1, off1, rfl, hc1⟩ := HB.out.one hlt
      obtain ⟨b2, off2, rfl, hc2⟩ := HG.out.one hlt
      cases hg : g j with
      | true =>
        rw [hg] at hc2
        go_wp2
        go_round
        case rel =>
          refine ⟨j + 1, bb, xx, by omega, by go_num, rfl, rfl, fun z => (HZ.out z).trans ⟨fun ⟨m, h1, h2, h3⟩ => ⟨m, by omega, h2, h3⟩, fun ⟨m, h1, h2, h3⟩ => ⟨m, ?_, h2, h3⟩⟩⟩
          by_cases e : m = j
          · subst e; rw [hg] at h2; cases h2
          · omega
        case measure => simp [intOf]; omega
      | false =>
        rw [hg] at hc2
        by_cases hc : bb = true ∧ xx ≤ lb j
        · obtain ⟨rfl, hx⟩ := hc
          go_wp2
          go_round
          case rel =>
            refine ⟨j + 1, true, xx, by omega, by go_num, rfl, rfl, fun z => ⟨fun h => ?_, fun ⟨m, h1, h2, h3⟩ => ?_⟩⟩
            · obtain ⟨m, h1, h2, h3⟩ := (HZ.out z).mp h
              exact ⟨m, by omega, h2, h3⟩
            · by_cases e : m = j
              · subst e; exact ⟨rfl, by omega⟩
              · exact (HZ.out z).mpr ⟨m, by omega, h2, h3⟩
          case measure => simp [intOf]; omega
        · have hrel : ∀ z : Int, (true = true ∧ lb j ≤ z) ↔ ∃ m, m < j + 1 ∧ g m = false ∧ lb m ≤ z := fun z => by
            refine ⟨fun h => ⟨j, by omega, hg, h.2⟩, fun ⟨m, h1, h2, h3⟩ => ⟨rfl, ?_⟩⟩
            by_cases e : m = j
            · subst e; exact h3
            · have h := (HZ.out z).mpr ⟨m, by omega, h2, h3⟩
              have : ¬ xx ≤ lb j := fun h' => hc ⟨h.1, h'⟩
              omega
          have HREL := Lib.hid hrel
          clear hrel
          cases bb with
          | true =>
            have hx : lb j < xx := by
              have : ¬ xx ≤ lb j := fun h' => hc ⟨rfl, h'⟩
              omega
            clear hc
            go_wp2
            go_round
            case rel => exact ⟨j + 1, true, lb j, by omega, by go_num, rfl, rfl, HREL.out⟩
            case measure => simp [intOf]; omega
          | false =>
            clear hc
            go_wp2
            go_round
            case rel => exact ⟨j + 1, true, lb j, by omega, by go_num, rfl, rfl, HREL.out⟩
            case measure => simp [intOf]; omega
    · obtain rfl : j = k := by omega
      go_wp2
      refine bodyPost_ret (v := .tuple #[.bool bb, .int .i64 xx]) (by simp [results, Tryz.results34, go_sem]) rfl ?_
      exact ⟨bb, xx, rfl, rfl, HZ.out⟩
end Go.Proofs.YtkoiadebacdklaaGreatFmt
