/- The guards of the two SetLocal laws, walked. -/
import Derived.Test.YtnmjidkbaohliaaGreatFmtLoc2
namespace Go.Proofs.YtnmjidkbaohliaaGreatFmt
open Go.RowKit
set_option maxRecDepth 100000

set_option maxHeartbeats 800000 in
theorem zz34 (aV aB : Option Addr) (n cV k cB : Nat) (lv no : Int) (x : Nat) (w : World) (hn : n ≤ 9223372036854775807) (hk : k ≤ 9223372036854775807) :
    Calls Tryz.prog 34 #[.slice aV n cV, .slice aB k cB, .int .i64 lv, .int .i64 no, .float .f64 x] w (SomeBool w) := by
  by_cases h1 : n ≤ 1048576
  · by_cases h2 : k ≤ 1048576
    · clear hn hk
      go_enter Tryz.func34, Tryz.ntmps34
      go_wp2
      all_goals (go_ret; exact ⟨_, rfl, rfl⟩)
    · clear hn
      go_enter Tryz.func34, Tryz.ntmps34
      go_wp2
      all_goals (go_ret; exact ⟨_, rfl, rfl⟩)
  · go_enter Tryz.func34, Tryz.ntmps34
    go_wp2
    all_goals (go_ret; exact ⟨_, rfl, rfl⟩)

set_option maxHeartbeats 800000 in
theorem zz43 (aV aB : Option Addr) (n cV k cB : Nat) (lv no : Int) (x : Nat) (w : World) (hn : n ≤ 9223372036854775807) (hk : k ≤ 9223372036854775807) :
    Calls Tryz.prog 43 #[.slice aV n cV, .slice aB k cB, .int .i64 lv, .int .i64 no, .float .f64 x] w (SomeBool w) := by
  by_cases h1 : n ≤ 1048576
  · by_cases h2 : k ≤ 1048576
    · clear hn hk
      go_enter Tryz.func43, Tryz.ntmps43
      go_wp2
      all_goals (go_ret; exact ⟨_, rfl, rfl⟩)
    · clear hn
      go_enter Tryz.func43, Tryz.ntmps43
      go_wp2
      all_goals (go_ret; exact ⟨_, rfl, rfl⟩)
  · go_enter Tryz.func43, Tryz.ntmps43
    go_wp2
    all_goals (go_ret; exact ⟨_, rfl, rfl⟩)

/-- The bases rise from 0 or above to below the count of values. -/
structure Fit (n k : Nat) (f : Nat → Int) : Prop where
  some : 0 < k
  low : 0 ≤ f 0
  rise : ∀ i, i + 1 < k → f i < f (i + 1)
  high : f (k - 1) < (n : Int)

/-- Some bool comes back, the order is drawn; where it is true, the bases fit. -/
def ToldFit (n k : Nat) (f : Nat → Int) (w : World) (e : Ending) (w' : World) : Prop := ∃ b, e = .returned (.bool b) ∧ Upd (fun _ => False) w w' ∧ (b = true → Fit n k f)

set_option maxHeartbeats 800000 in
theorem fit35 (aV aB : Option Addr) (n cV k cB : Nat) (f : Nat → Int) (w : World) (hk : k ≤ 4096) (hB : Cells w aB k fun j => .int .i64 (f j)) :
    Calls Tryz.prog 35 #[.slice aV n cV, .slice aB k cB] w (ToldFit n k f w) := by
  have HB := Lib.hid hB
  clear hB
  by_cases h0 : k = 0
  · subst h0
    go_enter Tryz.func35, Tryz.ntmps35
    go_wp2
    go_ret
    exact ⟨false, rfl, Upd.refl _ _, fun h => by cases h⟩
  · obtain ⟨K, rfl⟩ : ∃ K, k = K + 1 := ⟨k - 1, by omega⟩
    obtain ⟨b, off, rfl, c0⟩ := HB.out.one (j := 0) (by omega)
    rw [Nat.add_zero] at c0
    have HC := Lib.hid (show ∀ j, j < K + 1 → w.cell? ⟨b, off + j, none⟩ = some (.int .i64 (f j)) from fun j hj => by
      obtain ⟨y, hy, hc⟩ := HB.out j hj
      obtain rfl := Option.some.inj hy
      rw [Addr.add_mid] at hc
      exact hc)
    have HL := Lib.hid (World.block_lt_of_cell? w _ c0)
    clear HB
    have z0 : ((K + 1 : Nat) : Int) = (K : Int) + 1 := by omega
    by_cases hl : f 0 < 0
    · go_enter Tryz.func35, Tryz.ntmps35
      go_wp2
      go_ret
      exact ⟨false, rfl, Upd.refl _ _, fun h => by cases h⟩
    · go_enter Tryz.func35, Tryz.ntmps35
      go_wp2
      go_loopw [6] (fun i wr => ∃ q : Nat, q ≤ K ∧ i = .int .i64 ((q : Int) + 1) ∧ Upd (fun _ => False) w wr ∧ ∀ m, m < q → f m < f (m + 1)) (fun i _ => K + 1 - (intOf i).toNat)
      case atStart => exact ⟨0, Nat.zero_le _, rfl, Upd.refl _ _, fun m hm => absurd hm (by omega)⟩
      case round =>
        obtain ⟨q, hq, rfl, hu, hr⟩ := hrel
        have HU := Lib.hid hu
        have HR := Lib.hid hr
        have HC1 := Lib.hid (show ∀ j, j < K + 1 → wr.cell? ⟨b, off + j, none⟩ = some (.int .i64 (f j)) from fun j hj => by
          rw [← HC.out j hj]
          exact World.cell?_of_block (HU.out.block b HL.out (fun h => h)))
        clear hu hr c0
        by_cases hlt : q < K
        · have c1 := HC1.out (q + 1) (by omega)
          have c2 := HC1.out q (by omega)
          have hw : IntKind.i64.wrap ((q : Int) + 1 - 1) = (q : Int) := by rw [IntWalk.i64_in _ (by omega)]; omega
          have i1 : (q : Int) + 1 < (K : Int) + 1 := by omega
          have i2 : (q : Int) < (K : Int) + 1 := by omega
          by_cases hle : f (q + 1) ≤ f q
          · go_wp2
            go_quiet (fail)
            go_wp2
            go_ret
            exact ⟨false, rfl, HU.out.drewN _, fun h => by cases h⟩
          · go_wp2
            go_quiet (fail)
            go_wp2
            go_roundw
            case rel =>
              refine ⟨q + 1, by omega, by go_num, HU.out.drewN _, fun m hm => ?_⟩
              by_cases e : m = q
              · subst e; omega
              · exact HR.out m (by omega)
            case measure => simp [intOf]; omega
        · obtain rfl : q = K := by omega
          have c1 := HC1.out q (by omega)
          have i2 : (q : Int) < (q : Int) + 1 := by omega
          go_wp2
          go_ret
          refine ⟨_, rfl, HU.out, fun h => ⟨by omega, by omega, fun i hi => HR.out i (by omega), ?_⟩⟩
          simpa using h
end Go.Proofs.YtnmjidkbaohliaaGreatFmt
