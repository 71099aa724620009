/- Clones of slices, walked. -/
import Derived.Test.YtlmadbgpllokfaaGreatFmtCells
namespace Go.Proofs.YtlmadbgpllokfaaGreatFmt
open Go.RowKit
set_option maxRecDepth 100000

theorem mk_cloneStr (k : Nat) (hk : k ≤ 1048576) (w : World) : (Instr.makeSlice 57 (.int .i64 (k : Int)) (.int .i64 (k : Int))).run Tryz.prog w = .ok (.slice (some ⟨w.heap.size, 0, none⟩) k k) (w.alloc (.cells (tab k fun _ => Value.string ByteArray.empty).toArray 9)) := by
  have h := run_made (P := Tryz.prog) 57 9 (Value.string ByteArray.empty) 16 Tryz.underlying57 (by kernel_rfl) (by decide) k (by omega) (by omega) w
  rw [show ((List.replicate k (Value.string ByteArray.empty).cells.toList).flatten) = tab k fun _ => Value.string ByteArray.empty by
    rw [← tab_rep]; show (List.replicate k [Value.string ByteArray.empty]).flatten = _; simp] at h
  exact h

@[go_sem] theorem sn_cloneStr (w : World) (a : Option Addr) (n c : Nat) : (binOp .eql 57 (.slice a n c) (.slice none 0 0)).run Tryz.prog w = .ok (.bool a.isNone) w := Lib.run_eql_slice_nil w 57 9 a n c 0 0 Tryz.underlying57

set_option maxHeartbeats 400000 in
/-- What a clone of a slice gives: a slice of the same elements in a new block (nil stays nil). -/
theorem cloneStr (a : Option Addr) (k c : Nat) (f : Nat → ByteArray) (w : World) (hk : k ≤ 1048576) (hc : Cells w a k fun j => Value.string (f j)) :
    Calls Tryz.prog 28 #[.slice a k c] w fun e w' => ∃ a' c', e = .returned (.slice a' k c') ∧ Upd (fun _ => False) w w' ∧ (0 < k → a' = some ⟨w.heap.size, 0, none⟩ ∧ Blk w' w.heap.size (tab k fun j => Value.string (f j)) 9) := by
  have hm := mk_cloneStr k hk
  cases a with
  | none =>
    have h0 : k = 0 := by
      rcases Nat.eq_zero_or_pos k with h | h
      · exact h
      · obtain ⟨x, hx, _⟩ := hc 0 h; cases hx
    subst h0
    clear hc hm
    go_enter Tryz.func28, Tryz.ntmps28
    go_wp2
    go_ret
    exact ⟨none, 0, rfl, Upd.refl _ _, fun h => absurd h (by omega)⟩
  | some a =>
    obtain ⟨b, off, spot⟩ := a
    have HC := Lib.hid hc
    clear hc
    go_enter Tryz.func28, Tryz.ntmps28
    go_wp2
    go_loopw [4] (fun i wr => ∃ j : Nat, j ≤ k ∧ i = .int .i64 j ∧ Upd (fun _ => False) w wr ∧ Blk wr w.heap.size (tab k fun m => if m < j then Value.string (f m) else Value.string ByteArray.empty) 9) (fun i _ => k - (intOf i).toNat)
    case atStart => exact ⟨0, Nat.zero_le _, rfl, (Upd.refl _ _).alloc _, Blk.new _ _ _⟩
    case round =>
      obtain ⟨j, hj, rfl, hu, hb⟩ := hrel
      have HB := Lib.hid hb
      have HU := Lib.hid hu
      clear hu hb
      by_cases hlt : j < k
      · obtain ⟨x, hx, hcell⟩ := HC.out j hlt
        obtain rfl : x = ⟨b, off, spot⟩ := (Option.some.inj hx).symm
        obtain rfl : spot = none := by
          obtain ⟨x, hx0, hc0⟩ := HC.out 0 (by omega)
          obtain rfl := (Option.some.inj hx0)
          exact World.cell?_spot hc0
        rw [Addr.add_mid] at hcell
        have hbl := World.block_lt_of_cell? w _ hcell
        have h1 : wr.cell? ⟨b, off + j, none⟩ = some (Value.string (f j)) := by
          rw [← hcell]
          exact World.cell?_of_block (a := ⟨b, off + j, none⟩) (HU.out.block b hbl (fun h => h))
        have h2 : wr.cell? ⟨w.heap.size, j, none⟩ = some (Value.string ByteArray.empty) := HB.out.at (by rw [tab_in hlt, if_neg (by omega)])
        have h3 := HB.out.free j
        clear hcell hx
        go_wp2
        go_roundw
        case rel =>
          refine ⟨j + 1, by omega, by go_num, HU.out.setCell _ _ (.inr (Nat.le_refl _)), ?_⟩
          have := HB.out.set j (Value.string (f j))
          rw [tab_set] at this
          rw [tab_congr (g := fun m => if m = j then Value.string (f j) else if m < j then Value.string (f m) else Value.string ByteArray.empty)]
          · exact this
          · intro m _
            by_cases e : m = j
            · subst e; rw [if_pos rfl, if_pos (by omega)]
            · rw [if_neg e]
              by_cases e2 : m < j
              · rw [if_pos e2, if_pos (by omega)]
              · rw [if_neg e2, if_neg (by omega)]
        case measure => simp [intOf]; omega
      · obtain rfl : j = k := by omega
        go_wp2
        go_ret
        refine ⟨_, _, rfl, HU.out, fun _ => ⟨rfl, ?_⟩⟩
        have h := HB.out
        rw [tab_congr (g := fun m => Value.string (f m)) (fun m hm => if_pos hm)] at h
        exact h
end Go.Proofs.YtlmadbgpllokfaaGreatFmt
