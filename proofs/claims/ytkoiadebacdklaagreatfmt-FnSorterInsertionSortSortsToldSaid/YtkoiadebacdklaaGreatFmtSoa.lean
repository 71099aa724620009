/- The sorter's methods at numbers: walked. -/
import Derived.Test.YtkoiadebacdklaaGreatFmtCells
import Derived.Test.YtkoiadebacdklaaGreatFmtSrt
import Derived.Laws.NewFold
import Derived.Deep.QuietTactic
import Derived.BigQuiet
import Derived.RegionTactic
import Derived.BigRegion
namespace Go.Proofs.YtkoiadebacdklaaGreatFmt
open Go.RowKit
set_option maxRecDepth 100000

/-- A sorter of numbers over k cells at V. -/
def srt (V k : Nat) : List Value := [.pointer none, .pointer none, .slice (some ⟨V, 0, none⟩) k k]
def nv (a : Nat) : Value := .iface 111 (.float .f64 a)

set_option maxHeartbeats 400000 in
theorem less_than (a b : Nat) (w : World) : Calls Tryz.prog 68 #[.pointer none, nv a, nv b] w fun e w' => e = .returned (.bool (flt a b)) ∧ w = w' := by
  unfold nv
  go_enter Tryz.func68, Tryz.ntmps68
  go_wp2
  go_ret
  exact ⟨rfl, rfl⟩

set_option maxHeartbeats 400000 in
theorem sort_len (V k : Nat) (w : World) : Calls Tryz.prog 42 #[.agg (srt V k).toArray] w fun e w' => e = .returned (.int .i64 k) ∧ Upd (fun _ => False) w w' := by
  unfold srt
  go_enter Tryz.func42, Tryz.ntmps42
  go_wp2
  go_ret
  exact ⟨rfl, (Upd.refl _ _).alloc _⟩

set_option maxHeartbeats 800000 in
theorem sort_less (V k i j : Nat) (f : Nat → Nat) (w : World) (hi : i < k) (hj : j < k) (hV : Blk w V (tab k fun m => nv (f m)) 101) :
    Calls Tryz.prog 43 #[.agg (srt V k).toArray, .int .i64 i, .int .i64 j] w fun e w' => e = .returned (.bool (flt (f i) (f j))) ∧ Upd (fun _ => False) w w' := by
  have ci := hV.at (tab_in hi)
  have cj := hV.at (tab_in hj)
  have lt := hV.lt
  have i1 : (0 : Int) ≤ (i : Int) := by omega
  have i2 : (i : Int) < (k : Int) := by omega
  have j1 : (0 : Int) ≤ (j : Int) := by omega
  have j2 : (j : Int) < (k : Int) := by omega
  clear hV
  unfold srt
  go_enter Tryz.func43, Tryz.ntmps43
  go_wp2
  go_quiet ((go_at_call 68; exact Calls.quiet_of_same ((less_than (f i) (f j) _).mono (fun _ _ h => ⟨h.1, h.2.symm⟩))))
  go_wp2
  go_ret
  exact ⟨rfl, ((Upd.refl _ _).alloc _).drewN _⟩

set_option maxHeartbeats 800000 in
theorem sort_swap (V k i j : Nat) (f : Nat → Nat) (w : World) (hi : i < k) (hj : j < k) (hne : i ≠ j) (hV : Blk w V (tab k fun m => nv (f m)) 101) :
    Calls Tryz.prog 44 #[.agg (srt V k).toArray, .int .i64 i, .int .i64 j] w fun e w' => e = .returned (.tuple #[]) ∧ Upd (fun c => c = V) w w' ∧ Blk w' V (tab k fun m => nv (if m = j then f i else if m = i then f j else f m)) 101 := by
  have ci := hV.at (tab_in hi)
  have cj := hV.at (tab_in hj)
  have fi := hV.free i
  have fj := hV.free j
  have lt := hV.lt
  have HV := Lib.hid hV
  have i1 : (0 : Int) ≤ (i : Int) := by omega
  have i2 : (i : Int) < (k : Int) := by omega
  have j1 : (0 : Int) ≤ (j : Int) := by omega
  have j2 : (j : Int) < (k : Int) := by omega
  clear hV
  unfold srt
  unfold nv at ci cj
  have cj2 : (w.setCell ⟨V, i, none⟩ (.iface 111 (.float .f64 (f j)))).cell? ⟨V, j, none⟩ = some (.iface 111 (.float .f64 (f j))) := by
    rw [World.cell?_setCell_other _ _ _ _ (by simp)]
    exact cj
  go_enter Tryz.func44, Tryz.ntmps44
  go_wp2
  go_region
  go_wp2
  go_end0
  refine ⟨rfl, ((((Upd.refl (fun c => c = V) w).setCell ⟨V, i, none⟩ _ (.inl rfl)).setCell ⟨V, j, none⟩ _ (.inl rfl)).alloc _).drew, ?_⟩
  have h := (((HV.out.set i (nv (f j))).set j (nv (f i))).alloc (.cells #[.pointer none, .pointer none, .slice (some ⟨V, 0, none⟩) k k] 90)).drew
  rw [tab_set, tab_set] at h
  rw [tab_congr (g := fun m => if m = j then nv (f i) else if m = i then nv (f j) else nv (f m))]
  · exact h
  · intro m _
    split
    · rfl
    · split <;> rfl
end Go.Proofs.YtkoiadebacdklaaGreatFmt
