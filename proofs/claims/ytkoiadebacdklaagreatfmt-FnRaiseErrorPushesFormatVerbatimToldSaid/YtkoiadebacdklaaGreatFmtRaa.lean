/- The registry filled beyond its room, and the state's end: walked. -/
import Derived.Test.YtkoiadebacdklaaGreatFmtUve
import Derived.Laws.IdiomCopy
import Derived.Laws.CopyOwn
namespace Go.Proofs.YtkoiadebacdklaaGreatFmt
open Go.RowKit
set_option maxRecDepth 100000

set_option maxHeartbeats 400000 in
theorem is_full (R A cap top : Nat) (w : World) (h : Blk w R (regs2 A cap top) 123) :
    Calls Tryz.prog 78 #[.pointer (some ⟨R, 0, none⟩)] w fun e w' => e = .returned (.bool (decide (cap ≤ top))) ∧ ∃ n, w' = w.drewN n := by
  have g0 := h.at (o := 0) rfl
  have g1 := h.at (o := 1) rfl
  have lt := h.lt
  clear h
  by_cases e : cap ≤ top
  · go_enter Tryz.func78, Tryz.ntmps78
    go_wp2
    go_quiet (fail)
    go_wp2
    go_ret
    exact ⟨by simp [e], _, rfl⟩
  · go_enter Tryz.func78, Tryz.ntmps78
    go_wp2
    go_quiet (fail)
    go_wp2
    go_ret
    exact ⟨by simp [e], _, rfl⟩

/-- A register's value takes one cell. -/
def One (v : Nat → Value) (k : Nat) : Prop := ∀ m, m < k → (v m).oneCell' = true

theorem over_tab (k : Nat) (v : Nat → Value) : over (tab (k + 1) fun _ => Value.nilIface) 0 (tab k v) = tab (k + 1) fun m => if m < k then v m else .nilIface := by
  apply List.ext_getElem?
  intro j
  rw [over_at, tab_at, tab_at, tab_at, tab_length, tab_length]
  by_cases h : j < k
  · rw [if_pos (by omega), Nat.sub_zero, if_pos h, if_pos (by omega), if_pos h]
  · rw [if_neg (by omega)]
    by_cases h2 : j < k + 1
    · rw [if_pos h2, if_pos h2, if_neg h]
    · rw [if_neg h2, if_neg h2]

theorem run_forced (k A : Nat) (v : Nat → Value) (w : World) (N : Nat) (h1 : One v k) (hA : Blk w A (tab k v) 101) (hN : Blk w N (tab (k + 1) fun _ => Value.nilIface) 101) (ty : TypeId) :
    (Builtin.copy_ #[61, 61] ty #[.slice (some ⟨N, 0, none⟩) (k + 1) (k + 1), .slice (some ⟨A, 0, none⟩) k k]).run Tryz.prog w = .ok (goInt k) (w.setCells N 0 (tab k v)) := by
  have h := run_copy_cells (P := Tryz.prog) w 61 61 ty 101 N 0 (k + 1) (k + 1) ⟨A, 0, none⟩ k k (tab k v) Tryz.underlying61 (by kernel_rfl)
    (by rw [tab_length]; simp) (fun j u hu => by rw [Addr.add_mid, Nat.zero_add, hA.cell]; exact hu) (fun j hj => by rw [tab_length] at hj; rw [Nat.zero_add, hN.at (tab_in (by omega))]; rfl) (fun j _ => hN.free _)
    (fun u hu => by
      obtain ⟨j, hj⟩ := List.mem_iff_getElem?.1 hu
      rw [tab_at] at hj
      split at hj
      · cases hj; exact h1 j ‹_›
      · cases hj)
  rw [tab_length] at h
  exact h

set_option maxHeartbeats 800000 in
/-- A full registry gets one cell more, in a new block. -/
theorem force_resize (R A k : Nat) (v : Nat → Value) (w : World) (hk : k ≤ 131072) (h1 : One v k) (h : Blk w R (regs2 A k k) 123) (hA : Blk w A (tab k v) 101) :
    Calls Tryz.prog 79 #[.pointer (some ⟨R, 0, none⟩), .int .i64 ((k : Int) + 1)] w fun e w' => e = .returned (.tuple #[]) ∧ ∃ N, w.heap.size ≤ N ∧ Upd (fun c => c = R) w w' ∧ Blk w' R (regs2 N (k + 1) k) 123 ∧ Blk w' N (tab (k + 1) fun m => if m < k then v m else .nilIface) 101 := by
  have hm : ∀ w : World, (Instr.makeSlice 61 (.int .i64 ((k : Int) + 1)) (.int .i64 ((k : Int) + 1))).run Tryz.prog w = .ok (.slice (some ⟨w.heap.size, 0, none⟩) (k + 1) (k + 1)) (w.alloc (.cells (tab (k + 1) fun _ => Value.nilIface).toArray 101)) := mkLV (k + 1) (by omega)
  have lt := h.lt
  have H := Lib.hid h
  have HA := Lib.hid hA
  have H1 := Lib.hid h1
  clear h hA h1
  go_enter Tryz.func79, Tryz.ntmps79
  go_wp2
  refine wp_region_tail_at 10 (by kernel_rfl) (by kernel_rfl) (fun W1 hW1 => ?_)
  obtain ⟨N, hN⟩ : ∃ N, w.heap.size = N := ⟨_, rfl⟩
  have UP := Lib.hid (show Upd (fun _ => False) w W1 by rw [hW1]; exact ((Upd.refl _ _).alloc _).drew)
  have hb : Blk W1 N (tab (k + 1) fun _ => Value.nilIface) 101 := by rw [hW1]; exact (Blk.new_at hN.symm _ _).drew
  have hr : Blk W1 R (regs2 A k k) 123 := UP.out.blk H.out (fun h => h)
  have ha : Blk W1 A (tab k v) 101 := UP.out.blk HA.out (fun h => h)
  have hcp := run_forced k A v W1 N H1.out ha hb
  have g0 := hr.at (o := 0) rfl
  have g1 := hr.at (o := 1) rfl
  rw [hN]
  have HB := Lib.hid hb
  have HR := Lib.hid hr
  have HN := Lib.hid hN
  clear hW1 hb hr ha hN hm
  simp only [List.take_succ_cons, List.take_zero, List.drop_succ_cons, List.drop_zero]
  repeat still_step
  refine wpStill_nil ?_
  obtain ⟨W2, hW2⟩ : ∃ W2, W1.setCells N 0 (tab k v) = W2 := ⟨_, rfl⟩
  have hRN : R ≠ N := by have := HN.out; omega
  have hr2 : Blk W2 R (regs2 A k k) 123 := by rw [← hW2]; exact HR.out.sets_other _ _ _ hRN
  have UP2 := Lib.hid (show Upd (fun c => c = R) w W2 by rw [← hW2]; exact (UP.out.mono (fun _ _ h => h.elim)).setCells N 0 _ (.inr (Nat.le_of_eq HN.out)))
  have hb2 : Blk W2 N (tab (k + 1) fun m => if m < k then v m else .nilIface) 101 := by rw [← hW2, ← over_tab]; exact HB.out.sets 0 _
  have r0 := hr2.at (o := 0) rfl
  have rf := hr2.free 0
  rw [hW2] at hcp
  have HR2 := Lib.hid hr2
  have HB2 := Lib.hid hb2
  clear hr2 hb2 hW2 HB HR UP
  go_wp2
  go_end0
  exact ⟨rfl, N, Nat.le_of_eq HN.out, UP2.out.setCell ⟨R, 0, none⟩ _ (.inl rfl), HR2.out.set 0 _, HB2.out.set_other _ _ (by show N ≠ R; omega)⟩
end Go.Proofs.YtkoiadebacdklaaGreatFmt
