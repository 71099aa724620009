/- A stack of linked frames, built and walked. -/
import Derived.Test.YtnmjidkbaohliaaGreatFmtStk3
import Derived.Deep.LoopGhost
namespace Go.Proofs.YtnmjidkbaohliaaGreatFmt
open Go.RowKit
set_option maxRecDepth 100000

/-- The i-th frame as it is pushed. -/
def pushed (A : Nat) (f1 f2 f3 : Nat → Int) (i : Nat) : Fr := ⟨i, if i = 0 then none else some ⟨A, (i - 1) * 10, none⟩, f1 i, f2 i, f3 i⟩
/-- The frames behind j rounds. -/
def built (A k j : Nat) (f1 f2 f3 : Nat → Int) : List Fr := tab k fun m => if m < j then pushed A f1 f2 f3 m else Fr.zero

theorem built_step (A k j : Nat) (f1 f2 f3 : Nat → Int) (_hj : j < k) : (built A k j f1 f2 f3).set j (pushed A f1 f2 f3 j) = built A k (j + 1) f1 f2 f3 := by
  unfold built
  rw [tab_set]
  refine tab_congr (fun m _ => ?_)
  by_cases e : m = j
  · subst e; rw [if_pos rfl, if_pos (by omega)]
  · rw [if_neg e]
    by_cases e2 : m < j
    · rw [if_pos e2, if_pos (by omega)]
    · rw [if_neg e2, if_neg (by omega)]

theorem push_any (S B A k j : Nat) (fs : List Fr) (pc base nret : Int) (w : World) (hl : fs.length = k) (hj : j < k) (hk : k ≤ 4096) (hAB : A ≠ B) (hS : Blk w S (stt B) 108) (hA : Blk w A (enc fs) 71) (hB : Blk w B (stk A k j) 141) :
    Calls Tryz.prog 53 #[.pointer (some ⟨S, 0, none⟩), .int .i64 pc, .int .i64 base, .int .i64 nret] w fun e w' => e = .returned (.tuple #[]) ∧ Upd (fun b => b = A ∨ b = B) w w' ∧
      Blk w' A (enc (fs.set j ⟨j, if j = 0 then none else some ⟨A, (j - 1) * 10, none⟩, pc, base, nret⟩)) 71 ∧ Blk w' B (stk A k ((j : Int) + 1)) 141 := by
  subst hl
  cases j with
  | zero => exact push_frame0 S B A fs pc base nret w hj hk hAB hS hA hB
  | succ s => exact push_frame S B A s fs pc base nret w hj hk hAB hS hA hB

set_option maxHeartbeats 800000 in
theorem build_frames (P1 P2 P3 k : Nat) (f1 f2 f3 : Nat → Int) (w : World) (hk : k ≤ 4096) (h1 : Blk w P1 (part k k f1) 3) (h2 : Blk w P2 (part k k f2) 3) (h3 : Blk w P3 (part k k f3) 3) :
    Calls Tryz.prog 28 #[.slice (some ⟨P1, 0, none⟩) k k, .slice (some ⟨P2, 0, none⟩) k k, .slice (some ⟨P3, 0, none⟩) k k] w fun e w' => e = .returned (.pointer (some ⟨w.heap.size + 2, 0, none⟩)) ∧ Upd (fun _ => False) w w' ∧
      Blk w' w.heap.size (enc (built w.heap.size k k f1 f2 f3)) 71 ∧ Blk w' (w.heap.size + 1) (stk w.heap.size k k) 141 ∧ Blk w' (w.heap.size + 2) (stt (w.heap.size + 1)) 108 := by
  have H1 := Lib.hid h1
  have H2 := Lib.hid h2
  have H3 := Lib.hid h3
  have l1 := h1.lt
  have l2 := h2.lt
  have l3 := h3.lt
  clear h1 h2 h3
  go_enter Tryz.func28, Tryz.ntmps28
  go_wp2_with (first | (go_at_call 52; refine (new_state k _ hk).mono ?_; rintro e w0 ⟨rfl, hu, ha, hb, hs⟩; have HU0 := Lib.hid hu; have HA0 := Lib.hid ha; have HB0 := Lib.hid hb; have HS0 := Lib.hid hs; clear hu ha hb hs))
  go_loopw [9] (fun i wr => ∃ j : Nat, j ≤ k ∧ i = .int .i64 j ∧ Upd (fun _ => False) w wr ∧ Blk wr w.heap.size (enc (built w.heap.size k j f1 f2 f3)) 71 ∧ Blk wr (w.heap.size + 1) (stk w.heap.size k j) 141 ∧ Blk wr (w.heap.size + 2) (stt (w.heap.size + 1)) 108) (fun i _ => k - (intOf i).toNat)
  case atStart =>
    refine ⟨0, Nat.zero_le _, rfl, HU0.out, ?_, HB0.out, HS0.out⟩
    have h := HA0.out
    rw [tab_rep] at h
    exact h
  case round =>
    obtain ⟨j, hj, rfl, hu, ha, hb, hs⟩ := hrel
    have HU := Lib.hid hu
    have HA := Lib.hid ha
    have HB := Lib.hid hb
    have HS := Lib.hid hs
    clear hu ha hb hs
    by_cases hlt : j < k
    · go_wp2
      refine wp_region_tail_at 13 (by kernel_rfl) (by kernel_rfl) (fun W1 hW1 => ?_)
      have HU1 := Lib.hid (show Upd (fun _ => False) w W1 by rw [hW1]; exact HU.out.drew)
      have HA1 := Lib.hid (show Blk W1 w.heap.size (enc (built w.heap.size k j f1 f2 f3)) 71 by rw [hW1]; exact HA.out.drew)
      have HB1 := Lib.hid (show Blk W1 (w.heap.size + 1) (stk w.heap.size k j) 141 by rw [hW1]; exact HB.out.drew)
      have HS1 := Lib.hid (show Blk W1 (w.heap.size + 2) (stt (w.heap.size + 1)) 108 by rw [hW1]; exact HS.out.drew)
      clear hW1 HA HB HS HU
      have c1 : W1.cell? ⟨P1, j, none⟩ = some (.int .i64 (f1 j)) := (HU1.out.blk H1.out (fun h => h)).at (by unfold part; rw [tab_in hlt, if_pos hlt])
      have c2 : W1.cell? ⟨P2, j, none⟩ = some (.int .i64 (f2 j)) := (HU1.out.blk H2.out (fun h => h)).at (by unfold part; rw [tab_in hlt, if_pos hlt])
      have c3 : W1.cell? ⟨P3, j, none⟩ = some (.int .i64 (f3 j)) := (HU1.out.blk H3.out (fun h => h)).at (by unfold part; rw [tab_in hlt, if_pos hlt])
      simp only [List.take_succ_cons, List.take_zero, List.drop_succ_cons, List.drop_zero]
      repeat still_step
      refine wpStill_nil ?_
      go_wp2_with fail
      refine (push_any (w.heap.size + 2) (w.heap.size + 1) w.heap.size k j (built w.heap.size k j f1 f2 f3) (f1 j) (f2 j) (f3 j) _ (tab_length _ _) hlt hk (by omega) HS1.out HA1.out HB1.out).mono ?_
      rintro e w2 ⟨rfl, hu, ha, hb⟩
      have HU2 := Lib.hid (HU1.out.trans_new hu (fun b h => by omega))
      have HS2 := Lib.hid (hu.blk HS1.out (by omega))
      have HA2 := Lib.hid (show Blk w2 w.heap.size (enc (built w.heap.size k (j + 1) f1 f2 f3)) 71 by rw [← built_step _ _ _ _ _ _ hlt]; exact ha)
      have HB2 := Lib.hid hb
      clear hu ha hb HU1 HA1 HB1 HS1
      go_wp2
      go_roundw
      case rel => exact ⟨j + 1, by omega, by go_num, HU2.out, HA2.out, HB2.out, HS2.out⟩
      case measure => simp [intOf]; omega
    · obtain rfl : j = k := by omega
      go_wp2
      go_ret
      exact ⟨rfl, HU.out, HA.out, HB.out, HS.out⟩
end Go.Proofs.YtnmjidkbaohliaaGreatFmt
