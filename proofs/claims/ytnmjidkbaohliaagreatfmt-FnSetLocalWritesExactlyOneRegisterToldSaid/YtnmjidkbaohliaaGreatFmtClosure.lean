/- A closure over fresh upvalue cells, built and walked. -/
import Derived.Test.YtnmjidkbaohliaaGreatFmtUpv
namespace Go.Proofs.YtnmjidkbaohliaaGreatFmt
open Go.RowKit
set_option maxRecDepth 100000

theorem mk36 (k : Nat) (hk : k ≤ 1048576) (w : World) : (Instr.makeSlice 36 (.int .i64 (k : Int)) (.int .i64 (k : Int))).run Tryz.prog w = .ok (.slice (some ⟨w.heap.size, 0, none⟩) k k) (w.alloc (.cells (tab k fun _ => Value.pointer none).toArray 37)) := by
  have h := run_made (P := Tryz.prog) 36 37 (.pointer none) 8 Tryz.underlying36 (by kernel_rfl) (by decide) k (by omega) (by omega) w
  rw [show ((List.replicate k (Value.pointer none).cells.toList).flatten) = tab k fun _ => Value.pointer none by
    rw [← tab_rep]; show (List.replicate k [Value.pointer none]).flatten = _; simp] at h
  exact h

/-- The pointers to k cells that lie one behind the other. -/
def ptrs (U k : Nat) : List Value := tab k fun j => .pointer (some ⟨U + 1 + j, 0, none⟩)

structure Closure (w w' : World) (U k : Nat) (aN : Option Addr) (cN : Nat) (x : Nat → Nat) (g : Bool) : Prop where
  upd : Upd (fun _ => False) w w'
  size : w'.heap.size = U + 3 + k
  ups : Blk w' U (ptrs U k) 37
  box : ∀ j, j < k → Blk w' (U + 1 + j) (upv (.iface 96 (.float .f64 (x j))) true) 132
  pro : Blk w' (U + 1 + k) (proto aN k cN) 51
  fn : Blk w' (U + 2 + k) (fnc g (some ⟨U + 1 + k, 0, none⟩) (some ⟨U, 0, none⟩) k k) 43

set_option maxHeartbeats 800000 in
theorem build_closure (aN aV : Option Addr) (k cN cV : Nat) (x : Nat → Nat) (g : Bool) (w : World) (hk : k ≤ 1048576) (hV : Cells w aV k fun j => .float .f64 (x j)) :
    Calls Tryz.prog 19 #[.slice aN k cN, .slice aV k cV, .bool g] w fun e w' => e = .returned (.pointer (some ⟨w.heap.size + 2 + k, 0, none⟩)) ∧ Closure w w' w.heap.size k aN cN x g := by
  have hm := mk36 k hk
  have HV := Lib.hid hV
  clear hV
  go_enter Tryz.func19, Tryz.ntmps19
  go_wp2
  go_loopw [8] (fun i wr => ∃ j : Nat, j ≤ k ∧ i = .int .i64 j ∧ Upd (fun _ => False) w wr ∧ wr.heap.size = w.heap.size + 1 + j ∧ Blk wr w.heap.size (tab k fun m => .pointer (if m < j then some ⟨w.heap.size + 1 + m, 0, none⟩ else none)) 37 ∧ ∀ m, m < j → Blk wr (w.heap.size + 1 + m) (upv (.iface 96 (.float .f64 (x m))) true) 132) (fun i _ => k - (intOf i).toNat)
  case atStart => exact ⟨0, Nat.zero_le _, rfl, (Upd.refl _ _).alloc _, by simp, Blk.new _ _ _, fun m hm => absurd hm (by omega)⟩
  case round =>
    obtain ⟨j, hj, rfl, hu, hz, hb, hx⟩ := hrel
    have HU := Lib.hid hu
    have HZ := Lib.hid hz
    have HB := Lib.hid hb
    have HX := Lib.hid hx
    have hlt0 : w.heap.size < wr.heap.size := by omega
    clear hu hz hb hx
    by_cases hlt : j < k
    · obtain ⟨a, rfl, hc⟩ := (HV.out.upd HU.out) j hlt
      obtain ⟨b, off, spot⟩ := a
      obtain rfl : spot = none := by
        obtain ⟨y, hy, hc0⟩ := (HV.out.upd HU.out) 0 (by omega)
        obtain rfl := (Option.some.inj hy)
        exact World.cell?_spot hc0
      rw [Addr.add_mid] at hc
      have h2 : wr.cell? ⟨w.heap.size, j, none⟩ = some (.pointer none) := HB.out.at (by rw [tab_in hlt, if_neg (by omega)])
      have h3 := HB.out.free j
      go_wp2
      go_roundw
      case rel =>
        refine ⟨j + 1, by omega, by go_num, (HU.out.setCell _ _ (.inr (Nat.le_refl _))).alloc _, ?_, ?_, ?_⟩
        · rw [World.size_alloc, World.size_setCell, HZ.out]; omega
        · refine Blk.alloc ?_ _
          have := HB.out.set j (.pointer (some ⟨wr.heap.size, 0, none⟩))
          rw [tab_set] at this
          rw [tab_congr (g := fun m => if m = j then Value.pointer (some ⟨wr.heap.size, 0, none⟩) else .pointer (if m < j then some ⟨w.heap.size + 1 + m, 0, none⟩ else none))]
          · exact this
          · intro m _
            by_cases e : m = j
            · subst e; rw [if_pos rfl, if_pos (by omega), HZ.out]
            · rw [if_neg e]
              by_cases e2 : m < j
              · rw [if_pos e2, if_pos (by omega)]
              · rw [if_neg e2, if_neg (by omega)]
        · intro m hm
          by_cases e : m = j
          · subst e
            exact Blk.new_at (by rw [World.size_setCell, HZ.out]) (upv (.iface 96 (.float .f64 (x m))) true) 132
          · exact ((HX.out m (by omega)).set_other _ _ (by show w.heap.size + 1 + m ≠ w.heap.size; omega)).alloc _
      case measure => simp [intOf]; omega
    · obtain rfl : j = k := by omega
      go_wp2
      go_ret
      have e1 : w.heap.size + 1 + j = wr.heap.size := HZ.out.symm
      refine ⟨by show Ending.returned (.pointer (some ⟨wr.heap.size + 1, 0, none⟩)) = _; rw [show wr.heap.size + 1 = w.heap.size + 2 + j by omega], (HU.out.alloc _).alloc _, by rw [World.size_alloc, World.size_alloc]; omega, ?_, fun m hm => ((HX.out m hm).alloc _).alloc _, ?_, ?_⟩
      · have h := HB.out
        rw [tab_congr (g := fun m => Value.pointer (some ⟨w.heap.size + 1 + m, 0, none⟩)) (fun m hm => by rw [if_pos hm])] at h
        exact (h.alloc _).alloc _
      · exact (Blk.new_at e1 (proto aN j cN) 51).alloc _
      · have h := Blk.new_at (w := wr.alloc (.cells (proto aN j cN).toArray 51)) (b := w.heap.size + 2 + j) (by rw [World.size_alloc]; omega) (fnc g (some ⟨wr.heap.size, 0, none⟩) (some ⟨w.heap.size, 0, none⟩) j j) 43
        rw [e1]
        exact h
end Go.Proofs.YtnmjidkbaohliaaGreatFmt
