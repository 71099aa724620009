/- Cloning a slice of ints, walked. -/
import Derived.Test.YtnmjidkbaohliaaGreatFmtFacts
import Derived.Test.YtnmjidkbaohliaaGreatFmtHeapy
import Derived.Lib.Hide
import Derived.Deep.LoopGhost
namespace Go.Proofs.YtnmjidkbaohliaaGreatFmt
open Go.RowKit
set_option maxRecDepth 100000

theorem mk47 (k : Nat) (hk : k ≤ 1048576) (w : World) : (Instr.makeSlice 47 (.int .i64 (k : Int)) (.int .i64 (k : Int))).run Tryz.prog w = .ok (.slice (some ⟨w.heap.size, 0, none⟩) k k) (w.alloc (.cells (tab k fun _ => Value.int .i64 0).toArray 3)) := by
  have h := run_made (P := Tryz.prog) 47 3 (.int .i64 0) 8 Tryz.underlying47 (by kernel_rfl) (by decide) k (by omega) (by omega) w
  rw [show ((List.replicate k (Value.int .i64 0).cells.toList).flatten) = tab k fun _ => Value.int .i64 0 by
    rw [← tab_rep]; show (List.replicate k [Value.int .i64 0]).flatten = _; simp] at h
  exact h

@[go_sem] theorem sn47 (w : World) (a : Option Addr) (n c : Nat) : (binOp .eql 47 (.slice a n c) (.slice none 0 0)).run Tryz.prog w = .ok (.bool a.isNone) w := Lib.run_eql_slice_nil w 47 3 a n c 0 0 Tryz.underlying47

/-- What a clone holds behind j rounds. -/
def part (k j : Nat) (f : Nat → Int) : List Value := tab k fun m => .int .i64 (if m < j then f m else 0)

set_option maxHeartbeats 400000 in
theorem clone27 (a : Addr) (k c : Nat) (f : Nat → Int) (w : World) (hk : k ≤ 1048576) (hk0 : 0 < k) (hc : ∀ j, j < k → w.cell? (a.add j) = some (.int .i64 (f j))) :
    Calls Tryz.prog 27 #[.slice (some a) k c] w fun e w' => e = .returned (.slice (some ⟨w.heap.size, 0, none⟩) k k) ∧ Upd (fun _ => False) w w' ∧ Blk w' w.heap.size (part k k f) 3 := by
  have hm := mk47 k hk
  obtain ⟨b, off, spot⟩ := a
  have hspot : spot = none := by
    have := World.cell?_spot (hc 0 hk0)
    simpa [Addr.add] using this
  subst hspot
  have hc' : ∀ j, j < k → w.cell? ⟨b, off + j, none⟩ = some (.int .i64 (f j)) := fun j hj => by rw [← Addr.add_mid]; exact hc j hj
  have HC := Lib.hid hc'
  have hbl : b < w.heap.size := World.block_lt_of_cell? w _ (hc 0 hk0) |> fun h => by simpa [Addr.add] using h
  clear hc hc'
  go_enter Tryz.func27, Tryz.ntmps27
  go_wp2
  go_loopw [4] (fun i wr => ∃ j : Nat, j ≤ k ∧ i = .int .i64 j ∧ Upd (fun _ => False) w wr ∧ Blk wr w.heap.size (part k j f) 3) (fun i _ => k - (intOf i).toNat)
  case atStart => exact ⟨0, Nat.zero_le _, rfl, (Upd.refl _ _).alloc _, Blk.new _ _ _⟩
  case round =>
    obtain ⟨j, hj, rfl, hu, hb⟩ := hrel
    have HB := Lib.hid hb
    have HU := Lib.hid hu
    clear hu hb
    by_cases hlt : j < k
    · have h1 : wr.cell? ⟨b, off + j, none⟩ = some (.int .i64 (f j)) := by
        rw [← HC.out j hlt]
        exact World.cell?_of_block (a := ⟨b, off + j, none⟩) (HU.out.block b hbl (fun h => h))
      have h2 : wr.cell? ⟨w.heap.size, j, none⟩ = some (.int .i64 0) := HB.out.at (by unfold part; rw [tab_in hlt, if_neg (by omega)])
      have h3 := HB.out.free j
      go_wp2
      go_roundw
      case rel =>
        refine ⟨j + 1, by omega, by go_num, HU.out.setCell _ _ (.inr (Nat.le_refl _)), ?_⟩
        have := HB.out.set j (.int .i64 (f j))
        unfold part at this ⊢
        rw [tab_set] at this
        rw [tab_congr (g := fun m => if m = j then Value.int .i64 (f j) else .int .i64 (if m < j then f m else 0))]
        · exact this
        · intro m _
          by_cases e : m = j
          · subst e; rw [if_pos rfl, if_pos (by omega)]
          · rw [if_neg e]
            by_cases e2 : m < j
            · rw [if_pos e2, if_pos (by omega)]
            · rw [if_neg e2, if_neg (by omega)]
      case measure => simp [intOf]; omega
    · obtain rfl : j = k := by omega
      go_wp2
      go_ret
      exact ⟨rfl, HU.out, HB.out⟩

end Go.Proofs.YtnmjidkbaohliaaGreatFmt
