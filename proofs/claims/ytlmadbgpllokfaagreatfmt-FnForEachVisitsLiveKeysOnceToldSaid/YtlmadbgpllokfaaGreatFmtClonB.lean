/- Clones of slices, walked. -/
import Derived.Test.YtlmadbgpllokfaaGreatFmtCells
namespace Go.Proofs.YtlmadbgpllokfaaGreatFmt
open Go.RowKit
set_option maxRecDepth 100000

theorem mk_cloneInt (k : Nat) (hk : k ≤ 1048576) (w : World) : (Instr.makeSlice 93 (.int .i64 (k : Int)) (.int .i64 (k : Int))).run Tryz.prog w = .ok (.slice (some ⟨w.heap.size, 0, none⟩) k k) (w.alloc (.cells (tab k fun _ => Value.int .i64 0).toArray 3)) := by
  have h := run_made (P := Tryz.prog) 93 3 (Value.int .i64 0) 8 Tryz.underlying93 (by kernel_rfl) (by decide) k (by omega) (by omega) w
  rw [show ((List.replicate k (Value.int .i64 0).cells.toList).flatten) = tab k fun _ => Value.int .i64 0 by
    rw [← tab_rep]; show (List.replicate k [Value.int .i64 0]).flatten = _; simp] at h
  exact h

@[go_sem] theorem sn_cloneInt (w : World) (a : Option Addr) (n c : Nat) : (binOp .eql 93 (.slice a n c) (.slice none 0 0)).run Tryz.prog w = .ok (.bool a.isNone) w := Lib.run_eql_slice_nil w 93 3 a n c 0 0 Tryz.underlying93

set_option maxHeartbeats 400000 in
/-- What a clone of a slice gives: a slice of the same elements in a new block (nil stays nil). -/
theorem cloneInt (a : Option Addr) (k c : Nat) (f : Nat → Int) (w : World) (hk : k ≤ 1048576) (hc : Cells w a k fun j => Value.int .i64 (f j)) :
    Calls Tryz.prog 50 #[.slice a k c] w fun e w' => ∃ a' c', e = .returned (.slice a' k c') ∧ Upd (fun _ => False) w w' ∧ (0 < k → a' = some ⟨w.heap.size, 0, none⟩ ∧ Blk w' w.heap.size (tab k fun j => Value.int .i64 (f j)) 3) := by
  have hm := mk_cloneInt k hk
  cases a with
  | none =>
    have h0 : k = 0 := by
      rcases Nat.eq_zero_or_pos k with h | h
      · exact h
      · obtain ⟨x, hx, _⟩ := hc 0 h; cases hx
    subst h0
    clear hc hm
    go_enter Tryz.func50, Tryz.ntmps50
    go_wp2
    go_ret
    exact ⟨none, 0, rfl, Upd.refl _ _, fun h => absurd h (by omega)⟩
  | some a =>
    obtain ⟨b, off, spot⟩ := a
    have HC := Lib.hid hc
    clear hc
    go_enter Tryz.func50, Tryz.ntmps50
    go_wp2
    go_loopw [4] (fun i wr => ∃ j : Nat, j ≤ k ∧ i = .int .i64 j ∧ Upd (fun _ => False) w wr ∧ Blk wr w.heap.size (tab k fun m => if m < j then Value.int .i64 (f m) else Value.int .i64 0) 3) (fun i _ => k - (intOf i).toNat)
    case atStart => exact ⟨0, Nat.zero_le _, rfl, (Upd.refl _ _).alloc _, Blk.new _ _ _⟩
    case round =>
      obtain ⟨j, hj, rfl, hu, hb⟩ := hrel
      have HB := Lib.hid hb
      have HU := Lib.hid hu
      clear hu hb
      by_cases hlt : j < k
      · obtain ⟨x, hx, hcell⟩ := HC.out j hlt
        obtain rfl : x = ⟨b, off, spot⟩ := (Option.some.inj hx).symm
        obtain rfl : spot = none := by
          obtain ⟨x, hx0, hc0⟩ := HC.out 0 (by omega)
          obtain rfl := (Option.some.inj hx0)
          exact World.cell?_spot hc0
        rw [Addr.add_mid] at hcell
        have hbl := World.block_lt_of_cell? w _ hcell
        have h1 : wr.cell? ⟨b, off + j, none⟩ = some (Value.int .i64 (f j)) := by
          rw [← hcell]
          exact World.cell?_of_block (a := ⟨b, off + j, none⟩) (HU.out.block b hbl (fun h => h))
        have h2 : wr.cell? ⟨w.heap.size, j, none⟩ = some (Value.int .i64 0) := HB.out.at (by rw [tab_in hlt, if_neg (by omega)])
        have h3 := HB.out.free j
        clear hcell hx
        go_wp2
        go_roundw
        case rel =>
          refine ⟨j + 1, by omega, by go_num, HU.out.setCell _ _ (.inr (Nat.le_refl _)), ?_⟩
          have := HB.out.set j (Value.int .i64 (f j))
          rw [tab_set] at this
          rw [tab_congr (g := fun m => if m = j then Value.int .i64 (f j) else if m < j then Value.int .i64 (f m) else Value.int .i64 0)]
          · exact this
          · intro m _
            by_cases e : m = j
            · subst e; rw [if_pos rfl, if_pos (by omega)]
            · rw [if_neg e]
              by_cases e2 : m < j
              · rw [if_pos e2, if_pos (by omega)]
              · rw [if_neg e2, if_neg (by omega)]
        case measure => simp [intOf]; omega
      · obtain rfl : j = k := by omega
        go_wp2
        go_ret
        refine ⟨_, _, rfl, HU.out, fun _ => ⟨rfl, ?_⟩⟩
        have h := HB.out
        rw [tab_congr (g := fun m => Value.int .i64 (f m)) (fun m hm => if_pos hm)] at h
        exact h

theorem mk_cloneBool (k : Nat) (hk : k ≤ 1048576) (w : World) : (Instr.makeSlice 59 (.int .i64 (k : Int)) (.int .i64 (k : Int))).run Tryz.prog w = .ok (.slice (some ⟨w.heap.size, 0, none⟩) k k) (w.alloc (.cells (tab k fun _ => Value.bool false).toArray 4)) := by
  have h := run_made (P := Tryz.prog) 59 4 (Value.bool false) 1 Tryz.underlying59 (by kernel_rfl) (by decide) k (by omega) (by omega) w
  rw [show ((List.replicate k (Value.bool false).cells.toList).flatten) = tab k fun _ => Value.bool false by
    rw [← tab_rep]; show (List.replicate k [Value.bool false]).flatten = _; simp] at h
  exact h

@[go_sem] theorem sn_cloneBool (w : World) (a : Option Addr) (n c : Nat) : (binOp .eql 59 (.slice a n c) (.slice none 0 0)).run Tryz.prog w = .ok (.bool a.isNone) w := Lib.run_eql_slice_nil w 59 4 a n c 0 0 Tryz.underlying59

set_option maxHeartbeats 400000 in
/-- What a clone of a slice gives: a slice of the same elements in a new block (nil stays nil). -/
theorem cloneBool (a : Option Addr) (k c : Nat) (f : Nat → Bool) (w : World) (hk : k ≤ 1048576) (hc : Cells w a k fun j => Value.bool (f j)) :
    Calls Tryz.prog 30 #[.slice a k c] w fun e w' => ∃ a' c', e = .returned (.slice a' k c') ∧ Upd (fun _ => False) w w' ∧ (0 < k → a' = some ⟨w.heap.size, 0, none⟩ ∧ Blk w' w.heap.size (tab k fun j => Value.bool (f j)) 4) := by
  have hm := mk_cloneBool k hk
  cases a with
  | none =>
    have h0 : k = 0 := by
      rcases Nat.eq_zero_or_pos k with h | h
      · exact h
      · obtain ⟨x, hx, _⟩ := hc 0 h; cases hx
    subst h0
    clear hc hm
    go_enter Tryz.func30, Tryz.ntmps30
    go_wp2
    go_ret
    exact ⟨none, 0, rfl, Upd.refl _ _, fun h => absurd h (by omega)⟩
  | some a =>
    obtain ⟨b, off, spot⟩ := a
    have HC := Lib.hid hc
    clear hc
    go_enter Tryz.func30, Tryz.ntmps30
    go_wp2
    go_loopw [4] (fun i wr => ∃ j : Nat, j ≤ k ∧ i = .int .i64 j ∧ Upd (fun _ => False) w wr ∧ Blk wr w.heap.size (tab k fun m => if m < j then Value.bool (f m) else Value.bool false) 4) (fun i _ => k - (intOf i).toNat)
    case atStart => exact ⟨0, Nat.zero_le _, rfl, (Upd.refl _ _).alloc _, Blk.new _ _ _⟩
    case round =>
      obtain ⟨j, hj, rfl, hu, hb⟩ := hrel
      have HB := Lib.hid hb
      have HU := Lib.hid hu
      clear hu hb
      by_cases hlt : j < k
      · obtain ⟨x, hx, hcell⟩ := HC.out j hlt
        obtain rfl : x = ⟨b, off, spot⟩ := (Option.some.inj hx).symm
        obtain rfl : spot = none := by
          obtain ⟨x, hx0, hc0⟩ := HC.out 0 (by omega)
          obtain rfl := (Option.some.inj hx0)
          exact World.cell?_spot hc0
        rw [Addr.add_mid] at hcell
        have hbl := World.block_lt_of_cell? w _ hcell
        have h1 : wr.cell? ⟨b, off + j, none⟩ = some (Value.bool (f j)) := by
          rw [← hcell]
          exact World.cell?_of_block (a := ⟨b, off + j, none⟩) (HU.out.block b hbl (fun h => h))
        have h2 : wr.cell? ⟨w.heap.size, j, none⟩ = some (Value.bool false) := HB.out.at (by rw [tab_in hlt, if_neg (by omega)])
        have h3 := HB.out.free j
        clear hcell hx
        go_wp2
        go_roundw
        case rel =>
          refine ⟨j + 1, by omega, by go_num, HU.out.setCell _ _ (.inr (Nat.le_refl _)), ?_⟩
          have := HB.out.set j (Value.bool (f j))
          rw [tab_set] at this
          rw [tab_congr (g := fun m => if m = j then Value.bool (f j) else if m < j then Value.bool (f m) else Value.bool false)]
          · exact this
          · intro m _
            by_cases e : m = j
            · subst e; rw [if_pos rfl, if_pos (by omega)]
            · rw [if_neg e]
              by_cases e2 : m < j
              · rw [if_pos e2, if_pos (by omega)]
              · rw [if_neg e2, if_neg (by omega)]
        case measure => simp [intOf]; omega
      · obtain rfl : j = k := by omega
        go_wp2
        go_ret
        refine ⟨_, _, rfl, HU.out, fun _ => ⟨rfl, ?_⟩⟩
        have h := HB.out
        rw [tab_congr (g := fun m => Value.bool (f m)) (fun m hm => if_pos hm)] at h
        exact h

theorem mk_cloneFlo (k : Nat) (hk : k ≤ 1048576) (w : World) : (Instr.makeSlice 58 (.int .i64 (k : Int)) (.int .i64 (k : Int))).run Tryz.prog w = .ok (.slice (some ⟨w.heap.size, 0, none⟩) k k) (w.alloc (.cells (tab k fun _ => Value.float .f64 0).toArray 26)) := by
  have h := run_made (P := Tryz.prog) 58 26 (Value.float .f64 0) 8 Tryz.underlying58 (by kernel_rfl) (by decide) k (by omega) (by omega) w
  rw [show ((List.replicate k (Value.float .f64 0).cells.toList).flatten) = tab k fun _ => Value.float .f64 0 by
    rw [← tab_rep]; show (List.replicate k [Value.float .f64 0]).flatten = _; simp] at h
  exact h

@[go_sem] theorem sn_cloneFlo (w : World) (a : Option Addr) (n c : Nat) : (binOp .eql 58 (.slice a n c) (.slice none 0 0)).run Tryz.prog w = .ok (.bool a.isNone) w := Lib.run_eql_slice_nil w 58 26 a n c 0 0 Tryz.underlying58

set_option maxHeartbeats 400000 in
/-- What a clone of a slice gives: a slice of the same elements in a new block (nil stays nil). -/
theorem cloneFlo (a : Option Addr) (k c : Nat) (f : Nat → Nat) (w : World) (hk : k ≤ 1048576) (hc : Cells w a k fun j => Value.float .f64 (f j)) :
    Calls Tryz.prog 29 #[.slice a k c] w fun e w' => ∃ a' c', e = .returned (.slice a' k c') ∧ Upd (fun _ => False) w w' ∧ (0 < k → a' = some ⟨w.heap.size, 0, none⟩ ∧ Blk w' w.heap.size (tab k fun j => Value.float .f64 (f j)) 26) := by
  have hm := mk_cloneFlo k hk
  cases a with
  | none =>
    have h0 : k = 0 := by
      rcases Nat.eq_zero_or_pos k with h | h
      · exact h
      · obtain ⟨x, hx, _⟩ := hc 0 h; cases hx
    subst h0
    clear hc hm
    go_enter Tryz.func29, Tryz.ntmps29
    go_wp2
    go_ret
    exact ⟨none, 0, rfl, Upd.refl _ _, fun h => absurd h (by omega)⟩
  | some a =>
    obtain ⟨b, off, spot⟩ := a
    have HC := Lib.hid hc
    clear hc
    go_enter Tryz.func29, Tryz.ntmps29
    go_wp2
    go_loopw [4] (fun i wr => ∃ j : Nat, j ≤ k ∧ i = .int .i64 j ∧ Upd (fun _ => False) w wr ∧ Blk wr w.heap.size (tab k fun m => if m < j then Value.float .f64 (f m) else Value.float .f64 0) 26) (fun i _ => k - (intOf i).toNat)
    case atStart => exact ⟨0, Nat.zero_le _, rfl, (Upd.refl _ _).alloc _, Blk.new _ _ _⟩
    case round =>
      obtain ⟨j, hj, rfl, hu, hb⟩ := hrel
      have HB := Lib.hid hb
      have HU := Lib.hid hu
      clear hu hb
      by_cases hlt : j < k
      · obtain ⟨x, hx, hcell⟩ := HC.out j hlt
        obtain rfl : x = ⟨b, off, spot⟩ := (Option.some.inj hx).symm
        obtain rfl : spot = none := by
          obtain ⟨x, hx0, hc0⟩ := HC.out 0 (by omega)
          obtain rfl := (Option.some.inj hx0)
          exact World.cell?_spot hc0
        rw [Addr.add_mid] at hcell
        have hbl := World.block_lt_of_cell? w _ hcell
        have h1 : wr.cell? ⟨b, off + j, none⟩ = some (Value.float .f64 (f j)) := by
          rw [← hcell]
          exact World.cell?_of_block (a := ⟨b, off + j, none⟩) (HU.out.block b hbl (fun h => h))
        have h2 : wr.cell? ⟨w.heap.size, j, none⟩ = some (Value.float .f64 0) := HB.out.at (by rw [tab_in hlt, if_neg (by omega)])
        have h3 := HB.out.free j
        clear hcell hx
        go_wp2
        go_roundw
        case rel =>
          refine ⟨j + 1, by omega, by go_num, HU.out.setCell _ _ (.inr (Nat.le_refl _)), ?_⟩
          have := HB.out.set j (Value.float .f64 (f j))
          rw [tab_set] at this
          rw [tab_congr (g := fun m => if m = j then Value.float .f64 (f j) else if m < j then Value.float .f64 (f m) else Value.float .f64 0)]
          · exact this
          · intro m _
            by_cases e : m = j
            · subst e; rw [if_pos rfl, if_pos (by omega)]
            · rw [if_neg e]
              by_cases e2 : m < j
              · rw [if_pos e2, if_pos (by omega)]
              · rw [if_neg e2, if_neg (by omega)]
        case measure => simp [intOf]; omega
      · obtain rfl : j = k := by omega
        go_wp2
        go_ret
        refine ⟨_, _, rfl, HU.out, fun _ => ⟨rfl, ?_⟩⟩
        have h := HB.out
        rw [tab_congr (g := fun m => Value.float .f64 (f m)) (fun m hm => if_pos hm)] at h
        exact h
end Go.Proofs.YtlmadbgpllokfaaGreatFmt
