/- The guards of FnSetUpvalueSeenBySharingClosure and its look at floats, walked. -/
import Derived.Test.YtnmjidkbaohliaaGreatFmtClosure
namespace Go.Proofs.YtnmjidkbaohliaaGreatFmt
open Go.RowKit
set_option maxRecDepth 100000

/-- An element that a slice shows, with its address taken apart. -/
theorem Cells.one {w : World} {a : Option Addr} {k : Nat} {f : Nat → Value} (h : Cells w a k f) {j : Nat} (hj : j < k) : ∃ b off, a = some ⟨b, off, none⟩ ∧ w.cell? ⟨b, off + j, none⟩ = some (f j) := by
  obtain ⟨x, hx, hc⟩ := h j hj
  obtain ⟨y, hy, hc0⟩ := h 0 (by omega)
  obtain rfl : x = y := Option.some.inj (hx.symm.trans hy)
  obtain ⟨b, off, spot⟩ := x
  obtain rfl : spot = none := World.cell?_spot hc0
  exact ⟨b, off, hx, by rw [← Addr.add_mid]; exact hc⟩

/-- Some bool comes back; where it is true, no string is long. -/
def Told (k : Nat) (s : Nat → ByteArray) (w : World) (e : Ending) (w' : World) : Prop := ∃ b, e = .returned (.bool b) ∧ w = w' ∧ (b = true → k ≤ 1048576 ∧ ∀ j, j < k → (s j).size ≤ 1048576)

set_option maxHeartbeats 800000 in
theorem zz15 (aN aV : Option Addr) (k cN n cV : Nat) (s : Nat → ByteArray) (no : Int) (x : Nat) (w : World) (hkm : k ≤ 9223372036854775807) (hnm : n ≤ 9223372036854775807) (hN : Cells w aN k fun j => .string (s j)) :
    Calls Tryz.prog 15 #[.slice aN k cN, .slice aV n cV, .int .i64 no, .float .f64 x] w (Told k s w) := by
  have HN := Lib.hid hN
  clear hN
  by_cases hk : k ≤ 1048576
  · go_enter Tryz.func15, Tryz.ntmps15
    go_wp2
    go_loop [9, 10] (fun t i => ∃ (j : Nat) (z : Nat), j ≤ k ∧ z ≤ 1048576 ∧ i = .int .i64 j ∧ t = .int .i64 z ∧ ∀ m, m < j → (s m).size ≤ 1048576) (fun _ i => k - (intOf i).toNat)
    case atStart => exact ⟨0, k, Nat.zero_le _, hk, rfl, rfl, fun m hm => absurd hm (by omega)⟩
    case round =>
      obtain ⟨j, z, hj, hz, rfl, rfl, hs⟩ := hrel
      have HS := Lib.hid hs
      clear hs
      by_cases hlt : j < k
      · obtain ⟨b, off, rfl, hc⟩ := HN.out.one hlt
        by_cases hsz : (s j).size ≤ 1048576
        · go_wp2
          · go_ret
            exact ⟨false, rfl, rfl, fun h => by cases h⟩
          · go_round
            case rel =>
              refine ⟨j + 1, z + (s j).size, by omega, by omega, by go_num, by go_num, fun m hm => ?_⟩
              by_cases e : m = j
              · subst e; exact hsz
              · exact HS.out m (by omega)
            case measure => simp [intOf]; omega
        · go_wp2
          go_ret
          exact ⟨false, rfl, rfl, fun h => by cases h⟩
      · obtain rfl : j = k := by omega
        go_wp2
        all_goals
          go_ret
          exact ⟨_, rfl, rfl, fun _ => ⟨hk, HS.out⟩⟩
  · go_enter Tryz.func15, Tryz.ntmps15
    go_wp2
    go_ret
    exact ⟨false, rfl, rfl, fun h => by cases h⟩

/-- Some bool comes back. -/
def SomeBool (w : World) (e : Ending) (w' : World) : Prop := ∃ b, e = .returned (.bool b) ∧ w = w'

set_option maxHeartbeats 800000 in
theorem fits16_ne (aN aV : Option Addr) (k cN n cV : Nat) (w : World) (hne : ¬ k = n) :
    Calls Tryz.prog 16 #[.slice aN k cN, .slice aV n cV] w fun e w' => e = .returned (.bool false) ∧ w = w' := by
  go_enter Tryz.func16, Tryz.ntmps16
  go_wp2
  go_ret
  exact ⟨rfl, rfl⟩

set_option maxHeartbeats 800000 in
theorem fits16_eq (aN aV : Option Addr) (k cN cV : Nat) (s : Nat → ByteArray) (w : World) (hk : k ≤ 4096) (hN : Cells w aN k fun j => .string (s j)) (hs : ∀ j, j < k → (s j).size ≤ 1048576) :
    Calls Tryz.prog 16 #[.slice aN k cN, .slice aV k cV] w (SomeBool w) := by
  have HN := Lib.hid hN
  have HS := Lib.hid hs
  clear hN hs
  go_enter Tryz.func16, Tryz.ntmps16
  go_wp2
  go_loop [5, 6] (fun t i => ∃ (j : Nat) (z : Nat), j ≤ k ∧ z ≤ 1048576 ∧ i = .int .i64 j ∧ t = .int .i64 z) (fun _ i => k - (intOf i).toNat)
  case atStart => exact ⟨0, 24 * k, Nat.zero_le _, by omega, rfl, by go_num⟩
  case round =>
    obtain ⟨j, z, hj, hz, rfl, rfl⟩ := hrel
    by_cases hlt : j < k
    · obtain ⟨b, off, rfl, hc⟩ := HN.out.one hlt
      have hsz := HS.out j hlt
      go_wp2
      · go_ret
        exact ⟨false, rfl, rfl⟩
      · go_round
        case rel => exact ⟨j + 1, z + (s j).size, by omega, by omega, by go_num, by go_num⟩
        case measure => simp [intOf]; omega
    · obtain rfl : j = k := by omega
      go_wp2
      go_ret
      exact ⟨true, rfl, rfl⟩

set_option maxHeartbeats 400000 in
theorem same25 (x : Nat) (w : World) : Calls Tryz.prog 25 #[.float .f64 x, .float .f64 x] w fun e w' => e = .returned (.bool true) ∧ w' = w := by
  by_cases h : FloatKind.f64.format.order x x = some .eq
  · have h1 : (FloatKind.f64.format.order x x == some .eq) = true := by simpa using h
    clear h
    go_enter Tryz.func25, Tryz.ntmps25
    go_wp2
    all_goals (go_ret; exact ⟨rfl, rfl⟩)
  · have h1 : (FloatKind.f64.format.order x x == some .eq) = false := by simpa using h
    have h2 : (FloatKind.f64.format.order x x != some .eq) = true := by simpa using h
    clear h
    go_enter Tryz.func25, Tryz.ntmps25
    go_wp2
    all_goals (go_ret; exact ⟨rfl, rfl⟩)
end Go.Proofs.YtnmjidkbaohliaaGreatFmt
