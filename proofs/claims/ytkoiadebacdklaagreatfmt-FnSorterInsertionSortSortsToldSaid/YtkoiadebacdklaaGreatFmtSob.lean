/- The sorter's making and reading, the comparison of floats, the guard: walked. -/
import Derived.Test.YtkoiadebacdklaaGreatFmtSoa
import Derived.Test.YtkoiadebacdklaaGreatFmtClonU
namespace Go.Proofs.YtkoiadebacdklaaGreatFmt
open Go.RowKit
set_option maxRecDepth 100000

theorem mkLVs (k : Nat) (hk : k ≤ 1048576) (w : World) : (Instr.makeSlice 61 (.int .i64 (k : Int)) (.int .i64 (k : Int))).run Tryz.prog w = .ok (.slice (some ⟨w.heap.size, 0, none⟩) k k) (w.alloc (.cells (tab k fun _ => Value.nilIface).toArray 101)) := by
  have h := run_made (P := Tryz.prog) 61 101 .nilIface 16 Tryz.underlying61 (by kernel_rfl) (by decide) k (by omega) (by omega) w
  rw [show ((List.replicate k Value.nilIface.cells.toList).flatten) = tab k fun _ => Value.nilIface by
    rw [← tab_rep]; show (List.replicate k [Value.nilIface]).flatten = _; simp] at h
  exact h

theorem fill_step {α : Type} (k j : Nat) (f : Nat → α) (z : α) : tab k (fun m => if m < j + 1 then f m else z) = tab k (fun m => if m = j then f j else if m < j then f m else z) := by
  apply tab_congr
  intro m _
  by_cases e : m = j
  · subst e; rw [if_pos (by omega), if_pos rfl]
  · rw [if_neg e]
    by_cases e2 : m < j
    · rw [if_pos (by omega), if_pos e2]
    · rw [if_neg (by omega), if_neg e2]

theorem fill_all {α : Type} (k : Nat) (f : Nat → α) (z : α) : tab k (fun m => if m < k then f m else z) = tab k f := tab_congr (fun _ hm => if_pos hm)

set_option maxHeartbeats 800000 in
theorem new_sorter (a : Option Addr) (k c : Nat) (f : Nat → Nat) (w : World) (hk : k ≤ 512) (hc : Cells w a k fun j => Value.float .f64 (f j)) :
    Calls Tryz.prog 41 #[.slice a k c] w fun e w' => ∃ V, e = .returned (.agg (srt V k).toArray) ∧ Upd (fun _ => False) w w' ∧ w.heap.size ≤ V ∧ Blk w' V (tab k fun m => nv (f m)) 101 := by
  have hm := mkLVs k (by omega)
  have HC := Lib.hid hc
  clear hc
  go_enter Tryz.func41, Tryz.ntmps41
  go_wp2
  go_loopw [4] (fun i wr => ∃ j : Nat, j ≤ k ∧ i = .int .i64 j ∧ Upd (fun _ => False) w wr ∧ Blk wr w.heap.size [.pointer none, .pointer none, .slice none 0 0] 90 ∧ Blk wr (w.heap.size + 1) (tab k fun m => if m < j then nv (f m) else Value.nilIface) 101) (fun i _ => k - (intOf i).toNat)
  case atStart => exact ⟨0, Nat.zero_le _, rfl, ((Upd.refl _ _).alloc _).alloc _, (Blk.new w [.pointer none, .pointer none, .slice none 0 0] _).alloc _, Blk.new_at (by simp) _ _⟩
  case round =>
    obtain ⟨j, hj, rfl, hu, hq, hb⟩ := hrel
    have HQ := Lib.hid hq
    have HB := Lib.hid hb
    have HU := Lib.hid hu
    clear hu hb hq hm
    by_cases hlt : j < k
    · obtain ⟨b, off, rfl, hcell⟩ := (HC.out.upd HU.out).one hlt
      have h2 : wr.cell? ⟨w.heap.size + 1, j, none⟩ = some Value.nilIface := HB.out.at (by rw [tab_in hlt, if_neg (by omega)])
      have h3 := HB.out.free j
      go_wp2
      go_roundw
      case rel =>
        refine ⟨j + 1, by omega, by go_num, HU.out.setCell ⟨w.heap.size + 1, j, none⟩ _ (.inr (Nat.le_succ _)), HQ.out.set_other _ _ (by show w.heap.size ≠ w.heap.size + 1; omega), ?_⟩
        rw [fill_step]
        have := HB.out.set j (nv (f j))
        rw [tab_set] at this
        exact this
      case measure => simp [intOf]; omega
    · obtain rfl : j = k := by omega
      have hlt0 := HB.out.lt
      have q0 := HQ.out.at (o := 0) rfl
      have q1 := HQ.out.at (o := 1) rfl
      have q2 := HQ.out.at (o := 2) rfl
      have r0 := HQ.out.free 0
      have r1 := HQ.out.free 1
      have r2 := HQ.out.free 2
      go_wp2
      have e := fill_all j (fun m => nv (f m)) Value.nilIface
      have hD : Blk (((wr.setCell ⟨w.heap.size, 0, none⟩ (.pointer none)).setCell ⟨w.heap.size, 1, none⟩ (.pointer none)).setCell ⟨w.heap.size, 2, none⟩ (.slice (some ⟨w.heap.size + 1, 0, none⟩) j j)) w.heap.size (srt (w.heap.size + 1) j) 90 := ((HQ.out.set 0 _).set 1 _).set 2 _
      refine bodyPost_ret (v := .agg (srt (w.heap.size + 1) j).toArray) (results_cell_row rfl _ _ w.heap.size 90 _ (0, 0) _ rfl hD Tryz.underlying90 rfl (by kernel_rfl)) rfl ⟨_, rfl, ((HU.out.setCell _ _ (.inr (Nat.le_refl _))).setCell _ _ (.inr (Nat.le_refl _))).setCell _ _ (.inr (Nat.le_refl _)), Nat.le_succ _, ?_⟩
      have h := HB.out
      rw [e] at h
      exact ((h.set_other _ _ (by show w.heap.size + 1 ≠ w.heap.size; omega)).set_other _ _ (by show w.heap.size + 1 ≠ w.heap.size; omega)).set_other _ _ (by show w.heap.size + 1 ≠ w.heap.size; omega)

theorem mkFlos (k : Nat) (hk : k ≤ 1048576) (w : World) : (Instr.makeSlice 85 (.int .i64 (k : Int)) (.int .i64 (k : Int))).run Tryz.prog w = .ok (.slice (some ⟨w.heap.size, 0, none⟩) k k) (w.alloc (.cells (tab k fun _ => Value.float .f64 0).toArray 87)) := mk_cloneFlo k hk w

set_option maxHeartbeats 800000 in
theorem sorter_nums (V k : Nat) (f : Nat → Nat) (w : World) (hk : k ≤ 512) (hV : Blk w V (tab k fun m => nv (f m)) 101) :
    Calls Tryz.prog 45 #[.agg (srt V k).toArray] w fun e w' => ∃ b, e = .returned (.slice (some ⟨b, 0, none⟩) k k) ∧ Upd (fun _ => False) w w' ∧ w.heap.size ≤ b ∧ Blk w' b (tab k fun m => Value.float .f64 (f m)) 87 := by
  have hm := mkFlos k (by omega)
  have HV := Lib.hid hV
  have lt := hV.lt
  clear hV
  unfold srt
  go_enter Tryz.func45, Tryz.ntmps45
  go_wp2
  go_loopw [4] (fun i wr => ∃ j : Nat, j ≤ k ∧ i = .int .i64 j ∧ Upd (fun _ => False) w wr ∧ Blk wr w.heap.size (srt V k) 90 ∧ Blk wr (w.heap.size + 1) (tab k fun m => if m < j then Value.float .f64 (f m) else .float .f64 0) 87) (fun i _ => k - (intOf i).toNat)
  case atStart => exact ⟨0, Nat.zero_le _, rfl, ((Upd.refl _ _).alloc _).alloc _, (Blk.new w (srt V k) _).alloc _, Blk.new_at (by simp) _ _⟩
  case round =>
    obtain ⟨j, hj, rfl, hu, hq, hb⟩ := hrel
    have HQ := Lib.hid hq
    have HB := Lib.hid hb
    have HU := Lib.hid hu
    have q2 := HQ.out.at (o := 2) rfl
    clear hu hb hq hm
    by_cases hlt : j < k
    · have h1 := (HU.out.blk HV.out (fun h => h)).at (tab_in hlt)
      have h2 : wr.cell? ⟨w.heap.size + 1, j, none⟩ = some (Value.float .f64 0) := HB.out.at (by rw [tab_in hlt, if_neg (by omega)])
      have h3 := HB.out.free j
      have i1 : (0 : Int) ≤ (j : Int) := by omega
      have i2 : (j : Int) < (k : Int) := by omega
      unfold nv at h1
      go_wp2
      go_roundw
      case rel =>
        refine ⟨j + 1, by omega, by go_num, HU.out.setCell ⟨w.heap.size + 1, j, none⟩ _ (.inr (Nat.le_succ _)), HQ.out.set_other _ _ (by show w.heap.size ≠ w.heap.size + 1; omega), ?_⟩
        rw [fill_step]
        have := HB.out.set j (Value.float .f64 (f j))
        rw [tab_set] at this
        exact this
      case measure => simp [intOf]; omega
    · obtain rfl : j = k := by omega
      go_wp2
      go_ret
      refine ⟨w.heap.size + 1, rfl, HU.out, Nat.le_succ _, ?_⟩
      have h := HB.out
      rw [fill_all] at h
      exact h

theorem less_down (V k p : Nat) (f : Nat → Nat) (w : World) (hp : p + 1 < k) (hV : Blk w V (tab k fun m => nv (f m)) 101) :
    Calls Tryz.prog 43 #[.agg #[.pointer none, .pointer none, .slice (some ⟨V, 0, none⟩) k k], .int .i64 ((p : Int) + 1), .int .i64 p] w fun e w' => e = .returned (.bool (flt (f (p + 1)) (f p))) ∧ Upd (fun _ => False) w w' :=
  sort_less V k (p + 1) p f w hp (by omega) hV

theorem swap_down (V k p : Nat) (f : Nat → Nat) (w : World) (hp : p + 1 < k) (hV : Blk w V (tab k fun m => nv (f m)) 101) :
    Calls Tryz.prog 44 #[.agg #[.pointer none, .pointer none, .slice (some ⟨V, 0, none⟩) k k], .int .i64 ((p : Int) + 1), .int .i64 p] w fun e w' => e = .returned (.tuple #[]) ∧ Upd (fun c => c = V) w w' ∧ Blk w' V (tab k fun m => nv (if m = p then f (p + 1) else if m = p + 1 then f p else f m)) 101 :=
  sort_swap V k (p + 1) p f w hp (by omega) (by omega) hV
end Go.Proofs.YtkoiadebacdklaaGreatFmt
