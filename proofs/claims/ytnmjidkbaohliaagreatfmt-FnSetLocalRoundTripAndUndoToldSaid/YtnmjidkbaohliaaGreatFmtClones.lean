/- Cloning slices of strings, floats and ints, walked. -/
import Derived.Test.YtnmjidkbaohliaaGreatFmtFacts
import Derived.Test.YtnmjidkbaohliaaGreatFmtHeapy
import Derived.WideLaws
import Derived.Lib.Hide
import Derived.Deep.LoopGhost
namespace Go.Proofs.YtnmjidkbaohliaaGreatFmt
open Go.RowKit
set_option maxRecDepth 100000

@[go_sem] theorem st_float {P : Program} (w : World) (a : Addr) (m : Mode) (k : FloatKind) (b : Nat) : (store a (.float k b) m).run P w = stored P w a (.float k b) m := run_store P w a _ m rfl

/-- The elements that a slice shows. -/
def Cells (w : World) (a : Option Addr) (k : Nat) (f : Nat → Value) : Prop := ∀ j, j < k → ∃ x, a = some x ∧ w.cell? (x.add j) = some (f j)
theorem Cells.upd {w w' : World} {a : Option Addr} {k : Nat} {f : Nat → Value} (h : Cells w a k f) (hu : Upd (fun _ => False) w w') : Cells w' a k f := fun j hj => by
  obtain ⟨x, hx, hc⟩ := h j hj
  exact ⟨x, hx, by rw [← hc]; exact World.cell?_of_block (hu.block _ (World.block_lt_of_cell? w _ hc) (fun h => h))⟩
theorem Cells.of_blk {w : World} {a : Option Addr} {k b : Nat} {f : Nat → Value} {t : TypeId} (h : 0 < k → a = some ⟨b, 0, none⟩ ∧ Blk w b (tab k f) t) : Cells w a k f := fun j hj => by
  obtain ⟨ha, hb⟩ := h (by omega)
  exact ⟨_, ha, by rw [Addr.add_mid, Nat.zero_add]; exact hb.at (tab_in hj)⟩

theorem mk28cloneStr (k : Nat) (hk : k ≤ 1048576) (w : World) : (Instr.makeSlice 28 (.int .i64 (k : Int)) (.int .i64 (k : Int))).run Tryz.prog w = .ok (.slice (some ⟨w.heap.size, 0, none⟩) k k) (w.alloc (.cells (tab k fun _ => Value.string ByteArray.empty).toArray 9)) := by
  have h := run_made (P := Tryz.prog) 28 9 (Value.string ByteArray.empty) 16 Tryz.underlying28 (by kernel_rfl) (by decide) k (by omega) (by omega) w
  rw [show ((List.replicate k (Value.string ByteArray.empty).cells.toList).flatten) = tab k fun _ => Value.string ByteArray.empty by
    rw [← tab_rep]; show (List.replicate k [Value.string ByteArray.empty]).flatten = _; simp] at h
  exact h

@[go_sem] theorem sn28cloneStr (w : World) (a : Option Addr) (n c : Nat) : (binOp .eql 28 (.slice a n c) (.slice none 0 0)).run Tryz.prog w = .ok (.bool a.isNone) w := Lib.run_eql_slice_nil w 28 9 a n c 0 0 Tryz.underlying28

set_option maxHeartbeats 400000 in
/-- What a clone of a slice gives: a slice of the same elements in a new block (nil stays nil). -/
theorem cloneStr (a : Option Addr) (k c : Nat) (f : Nat → ByteArray) (w : World) (hk : k ≤ 1048576) (hc : Cells w a k fun j => Value.string (f j)) :
    Calls Tryz.prog 17 #[.slice a k c] w fun e w' => ∃ a' c', e = .returned (.slice a' k c') ∧ Upd (fun _ => False) w w' ∧ (0 < k → a' = some ⟨w.heap.size, 0, none⟩ ∧ Blk w' w.heap.size (tab k fun j => Value.string (f j)) 9) := by
  have hm := mk28cloneStr k hk
  cases a with
  | none =>
    have h0 : k = 0 := by
      rcases Nat.eq_zero_or_pos k with h | h
      · exact h
      · obtain ⟨x, hx, _⟩ := hc 0 h; cases hx
    subst h0
    clear hc hm
    go_enter Tryz.func17, Tryz.ntmps17
    go_wp2
    go_ret
    exact ⟨none, 0, rfl, Upd.refl _ _, fun h => absurd h (by omega)⟩
  | some a =>
    obtain ⟨b, off, spot⟩ := a
    have HC := Lib.hid hc
    clear hc
    go_enter Tryz.func17, Tryz.ntmps17
    go_wp2
    go_loopw [4] (fun i wr => ∃ j : Nat, j ≤ k ∧ i = .int .i64 j ∧ Upd (fun _ => False) w wr ∧ Blk wr w.heap.size (tab k fun m => if m < j then Value.string (f m) else Value.string ByteArray.empty) 9) (fun i _ => k - (intOf i).toNat)
    case atStart => exact ⟨0, Nat.zero_le _, rfl, (Upd.refl _ _).alloc _, Blk.new _ _ _⟩
    case round =>
      obtain ⟨j, hj, rfl, hu, hb⟩ := hrel
      have HB := Lib.hid hb
      have HU := Lib.hid hu
      clear hu hb
      by_cases hlt : j < k
      · obtain ⟨x, hx, hcell⟩ := HC.out j hlt
        obtain rfl : x = ⟨b, off, spot⟩ := (Option.some.inj hx).symm
        obtain rfl : spot = none := by
          obtain ⟨x, hx0, hc0⟩ := HC.out 0 (by omega)
          obtain rfl := (Option.some.inj hx0)
          exact World.cell?_spot hc0
        rw [Addr.add_mid] at hcell
        have hbl := World.block_lt_of_cell? w _ hcell
        have h1 : wr.cell? ⟨b, off + j, none⟩ = some (Value.string (f j)) := by
          rw [← hcell]
          exact World.cell?_of_block (a := ⟨b, off + j, none⟩) (HU.out.block b hbl (fun h => h))
        have h2 : wr.cell? ⟨w.heap.size, j, none⟩ = some (Value.string ByteArray.empty) := HB.out.at (by rw [tab_in hlt, if_neg (by omega)])
        have h3 := HB.out.free j
        clear hcell hx
        go_wp2
        go_roundw
        case rel =>
          refine ⟨j + 1, by omega, by go_num, HU.out.setCell _ _ (.inr (Nat.le_refl _)), ?_⟩
          have := HB.out.set j (Value.string (f j))
          rw [tab_set] at this
          rw [tab_congr (g := fun m => if m = j then Value.string (f j) else if m < j then Value.string (f m) else Value.string ByteArray.empty)]
          · exact this
          · intro m _
            by_cases e : m = j
            · subst e; rw [if_pos rfl, if_pos (by omega)]
            · rw [if_neg e]
              by_cases e2 : m < j
              · rw [if_pos e2, if_pos (by omega)]
              · rw [if_neg e2, if_neg (by omega)]
        case measure => simp [intOf]; omega
      · obtain rfl : j = k := by omega
        go_wp2
        go_ret
        refine ⟨_, _, rfl, HU.out, fun _ => ⟨rfl, ?_⟩⟩
        have h := HB.out
        rw [tab_congr (g := fun m => Value.string (f m)) (fun m hm => if_pos hm)] at h
        exact h

theorem mk29cloneFlo (k : Nat) (hk : k ≤ 1048576) (w : World) : (Instr.makeSlice 29 (.int .i64 (k : Int)) (.int .i64 (k : Int))).run Tryz.prog w = .ok (.slice (some ⟨w.heap.size, 0, none⟩) k k) (w.alloc (.cells (tab k fun _ => Value.float .f64 0).toArray 25)) := by
  have h := run_made (P := Tryz.prog) 29 25 (Value.float .f64 0) 8 Tryz.underlying29 (by kernel_rfl) (by decide) k (by omega) (by omega) w
  rw [show ((List.replicate k (Value.float .f64 0).cells.toList).flatten) = tab k fun _ => Value.float .f64 0 by
    rw [← tab_rep]; show (List.replicate k [Value.float .f64 0]).flatten = _; simp] at h
  exact h

@[go_sem] theorem sn29cloneFlo (w : World) (a : Option Addr) (n c : Nat) : (binOp .eql 29 (.slice a n c) (.slice none 0 0)).run Tryz.prog w = .ok (.bool a.isNone) w := Lib.run_eql_slice_nil w 29 25 a n c 0 0 Tryz.underlying29

set_option maxHeartbeats 400000 in
/-- What a clone of a slice gives: a slice of the same elements in a new block (nil stays nil). -/
theorem cloneFlo (a : Option Addr) (k c : Nat) (f : Nat → Nat) (w : World) (hk : k ≤ 1048576) (hc : Cells w a k fun j => Value.float .f64 (f j)) :
    Calls Tryz.prog 18 #[.slice a k c] w fun e w' => ∃ a' c', e = .returned (.slice a' k c') ∧ Upd (fun _ => False) w w' ∧ (0 < k → a' = some ⟨w.heap.size, 0, none⟩ ∧ Blk w' w.heap.size (tab k fun j => Value.float .f64 (f j)) 25) := by
  have hm := mk29cloneFlo k hk
  cases a with
  | none =>
    have h0 : k = 0 := by
      rcases Nat.eq_zero_or_pos k with h | h
      · exact h
      · obtain ⟨x, hx, _⟩ := hc 0 h; cases hx
    subst h0
    clear hc hm
    go_enter Tryz.func18, Tryz.ntmps18
    go_wp2
    go_ret
    exact ⟨none, 0, rfl, Upd.refl _ _, fun h => absurd h (by omega)⟩
  | some a =>
    obtain ⟨b, off, spot⟩ := a
    have HC := Lib.hid hc
    clear hc
    go_enter Tryz.func18, Tryz.ntmps18
    go_wp2
    go_loopw [4] (fun i wr => ∃ j : Nat, j ≤ k ∧ i = .int .i64 j ∧ Upd (fun _ => False) w wr ∧ Blk wr w.heap.size (tab k fun m => if m < j then Value.float .f64 (f m) else Value.float .f64 0) 25) (fun i _ => k - (intOf i).toNat)
    case atStart => exact ⟨0, Nat.zero_le _, rfl, (Upd.refl _ _).alloc _, Blk.new _ _ _⟩
    case round =>
      obtain ⟨j, hj, rfl, hu, hb⟩ := hrel
      have HB := Lib.hid hb
      have HU := Lib.hid hu
      clear hu hb
      by_cases hlt : j < k
      · obtain ⟨x, hx, hcell⟩ := HC.out j hlt
        obtain rfl : x = ⟨b, off, spot⟩ := (Option.some.inj hx).symm
        obtain rfl : spot = none := by
          obtain ⟨x, hx0, hc0⟩ := HC.out 0 (by omega)
          obtain rfl := (Option.some.inj hx0)
          exact World.cell?_spot hc0
        rw [Addr.add_mid] at hcell
        have hbl := World.block_lt_of_cell? w _ hcell
        have h1 : wr.cell? ⟨b, off + j, none⟩ = some (Value.float .f64 (f j)) := by
          rw [← hcell]
          exact World.cell?_of_block (a := ⟨b, off + j, none⟩) (HU.out.block b hbl (fun h => h))
        have h2 : wr.cell? ⟨w.heap.size, j, none⟩ = some (Value.float .f64 0) := HB.out.at (by rw [tab_in hlt, if_neg (by omega)])
        have h3 := HB.out.free j
        clear hcell hx
        go_wp2
        go_roundw
        case rel =>
          refine ⟨j + 1, by omega, by go_num, HU.out.setCell _ _ (.inr (Nat.le_refl _)), ?_⟩
          have := HB.out.set j (Value.float .f64 (f j))
          rw [tab_set] at this
          rw [tab_congr (g := fun m => if m = j then Value.float .f64 (f j) else if m < j then Value.float .f64 (f m) else Value.float .f64 0)]
          · exact this
          · intro m _
            by_cases e : m = j
            · subst e; rw [if_pos rfl, if_pos (by omega)]
            · rw [if_neg e]
              by_cases e2 : m < j
              · rw [if_pos e2, if_pos (by omega)]
              · rw [if_neg e2, if_neg (by omega)]
        case measure => simp [intOf]; omega
      · obtain rfl : j = k := by omega
        go_wp2
        go_ret
        refine ⟨_, _, rfl, HU.out, fun _ => ⟨rfl, ?_⟩⟩
        have h := HB.out
        rw [tab_congr (g := fun m => Value.float .f64 (f m)) (fun m hm => if_pos hm)] at h
        exact h

theorem mk47cloneInt (k : Nat) (hk : k ≤ 1048576) (w : World) : (Instr.makeSlice 47 (.int .i64 (k : Int)) (.int .i64 (k : Int))).run Tryz.prog w = .ok (.slice (some ⟨w.heap.size, 0, none⟩) k k) (w.alloc (.cells (tab k fun _ => Value.int .i64 0).toArray 3)) := by
  have h := run_made (P := Tryz.prog) 47 3 (Value.int .i64 0) 8 Tryz.underlying47 (by kernel_rfl) (by decide) k (by omega) (by omega) w
  rw [show ((List.replicate k (Value.int .i64 0).cells.toList).flatten) = tab k fun _ => Value.int .i64 0 by
    rw [← tab_rep]; show (List.replicate k [Value.int .i64 0]).flatten = _; simp] at h
  exact h

@[go_sem] theorem sn47cloneInt (w : World) (a : Option Addr) (n c : Nat) : (binOp .eql 47 (.slice a n c) (.slice none 0 0)).run Tryz.prog w = .ok (.bool a.isNone) w := Lib.run_eql_slice_nil w 47 3 a n c 0 0 Tryz.underlying47

set_option maxHeartbeats 400000 in
/-- What a clone of a slice gives: a slice of the same elements in a new block (nil stays nil). -/
theorem cloneInt (a : Option Addr) (k c : Nat) (f : Nat → Int) (w : World) (hk : k ≤ 1048576) (hc : Cells w a k fun j => Value.int .i64 (f j)) :
    Calls Tryz.prog 36 #[.slice a k c] w fun e w' => ∃ a' c', e = .returned (.slice a' k c') ∧ Upd (fun _ => False) w w' ∧ (0 < k → a' = some ⟨w.heap.size, 0, none⟩ ∧ Blk w' w.heap.size (tab k fun j => Value.int .i64 (f j)) 3) := by
  have hm := mk47cloneInt k hk
  cases a with
  | none =>
    have h0 : k = 0 := by
      rcases Nat.eq_zero_or_pos k with h | h
      · exact h
      · obtain ⟨x, hx, _⟩ := hc 0 h; cases hx
    subst h0
    clear hc hm
    go_enter Tryz.func36, Tryz.ntmps36
    go_wp2
    go_ret
    exact ⟨none, 0, rfl, Upd.refl _ _, fun h => absurd h (by omega)⟩
  | some a =>
    obtain ⟨b, off, spot⟩ := a
    have HC := Lib.hid hc
    clear hc
    go_enter Tryz.func36, Tryz.ntmps36
    go_wp2
    go_loopw [4] (fun i wr => ∃ j : Nat, j ≤ k ∧ i = .int .i64 j ∧ Upd (fun _ => False) w wr ∧ Blk wr w.heap.size (tab k fun m => if m < j then Value.int .i64 (f m) else Value.int .i64 0) 3) (fun i _ => k - (intOf i).toNat)
    case atStart => exact ⟨0, Nat.zero_le _, rfl, (Upd.refl _ _).alloc _, Blk.new _ _ _⟩
    case round =>
      obtain ⟨j, hj, rfl, hu, hb⟩ := hrel
      have HB := Lib.hid hb
      have HU := Lib.hid hu
      clear hu hb
      by_cases hlt : j < k
      · obtain ⟨x, hx, hcell⟩ := HC.out j hlt
        obtain rfl : x = ⟨b, off, spot⟩ := (Option.some.inj hx).symm
        obtain rfl : spot = none := by
          obtain ⟨x, hx0, hc0⟩ := HC.out 0 (by omega)
          obtain rfl := (Option.some.inj hx0)
          exact World.cell?_spot hc0
        rw [Addr.add_mid] at hcell
        have hbl := World.block_lt_of_cell? w _ hcell
        have h1 : wr.cell? ⟨b, off + j, none⟩ = some (Value.int .i64 (f j)) := by
          rw [← hcell]
          exact World.cell?_of_block (a := ⟨b, off + j, none⟩) (HU.out.block b hbl (fun h => h))
        have h2 : wr.cell? ⟨w.heap.size, j, none⟩ = some (Value.int .i64 0) := HB.out.at (by rw [tab_in hlt, if_neg (by omega)])
        have h3 := HB.out.free j
        clear hcell hx
        go_wp2
        go_roundw
        case rel =>
          refine ⟨j + 1, by omega, by go_num, HU.out.setCell _ _ (.inr (Nat.le_refl _)), ?_⟩
          have := HB.out.set j (Value.int .i64 (f j))
          rw [tab_set] at this
          rw [tab_congr (g := fun m => if m = j then Value.int .i64 (f j) else if m < j then Value.int .i64 (f m) else Value.int .i64 0)]
          · exact this
          · intro m _
            by_cases e : m = j
            · subst e; rw [if_pos rfl, if_pos (by omega)]
            · rw [if_neg e]
              by_cases e2 : m < j
              · rw [if_pos e2, if_pos (by omega)]
              · rw [if_neg e2, if_neg (by omega)]
        case measure => simp [intOf]; omega
      · obtain rfl : j = k := by omega
        go_wp2
        go_ret
        refine ⟨_, _, rfl, HU.out, fun _ => ⟨rfl, ?_⟩⟩
        have h := HB.out
        rw [tab_congr (g := fun m => Value.int .i64 (f m)) (fun m hm => if_pos hm)] at h
        exact h

end Go.Proofs.YtnmjidkbaohliaaGreatFmt
