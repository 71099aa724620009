/- FnRemoveCallerFrameCollapsesTailCalls inside its guards, walked. -/
import Derived.Test.YtnmjidkbaohliaaGreatFmtColOut
import Derived.Test.YtnmjidkbaohliaaGreatFmtDelIn
import Derived.Deep.LoopGhost
import Derived.IntWalk
namespace Go.Proofs.YtnmjidkbaohliaaGreatFmt
open Go.RowKit
set_option maxRecDepth 100000

/-- The frame in slot m when the newest frame has been moved there. -/
def newest (A k m : Nat) (f1 f2 f3 : Nat → Int) : Fr := ⟨m, if m = 0 then none else some ⟨A, (m - 1) * 10, none⟩, f1 (k - 1), f2 (k - 1), f3 (k - 1)⟩

/-- What holds while c + 1 frames are left. -/
structure ColInv (w wr : World) (b1 b2 b3 A k c : Nat) (f1 f2 f3 : Nat → Int) (fs : List Fr) : Prop where
  upd : Upd (fun _ => False) w wr
  p1 : Blk wr b1 (part k k f1) 3
  p2 : Blk wr b2 (part k k f2) 3
  p3 : Blk wr b3 (part k k f3) 3
  len : fs.length = k
  low : ∀ m, m < c → fs[m]? = some (pushed A f1 f2 f3 m)
  top : fs[c]? = some (newest A k c f1 f2 f3)
  arr : Blk wr A (enc fs) 71
  stk : Blk wr (A + 1) (stk A k ((c : Int) + 1)) 141
  st : Blk wr (A + 2) (stt (A + 1)) 108

theorem ColInv.drewN {w wr : World} {b1 b2 b3 A k c : Nat} {f1 f2 f3 : Nat → Int} {fs : List Fr} (h : ColInv w wr b1 b2 b3 A k c f1 f2 f3 fs) (n : Nat) : ColInv w (wr.drewN n) b1 b2 b3 A k c f1 f2 f3 fs :=
  ⟨h.upd.drewN n, h.p1.drewN n, h.p2.drewN n, h.p3.drewN n, h.len, h.low, h.top, h.arr.drewN n, h.stk.drewN n, h.st.drewN n⟩

set_option maxHeartbeats 1600000 in
theorem collapses_in (a1 a2 a3 : Addr) (k s c1 c2 c3 : Nat) (f1 f2 f3 : Nat → Int) (w : World) (hk : k ≤ 4096) (hks : s + 2 = k)
    (h1 : ∀ j, j < k → w.cell? (a1.add j) = some (.int .i64 (f1 j))) (h2 : ∀ j, j < k → w.cell? (a2.add j) = some (.int .i64 (f2 j))) (h3 : ∀ j, j < k → w.cell? (a3.add j) = some (.int .i64 (f3 j))) :
    Calls Tryz.prog 7 #[.slice (some a1) k c1, .slice (some a2) k c2, .slice (some a3) k c3] w (Good w) := by
  have H1 := Lib.hid h1
  have H2 := Lib.hid h2
  have H3 := Lib.hid h3
  have hk1 : s + 2 ≤ k := by omega
  have hk2 : k ≤ s + 2 := by omega
  have HK := Lib.hid hks
  have d1 : decide ((4096 : Int) < (k : Int)) = false := decide_eq_false (by omega)
  have d2 : decide ((k : Int) < 2) = false := decide_eq_false (by omega)
  clear h1 h2 h3 hks
  go_enter Tryz.func7, Tryz.ntmps7
  go_wp2_with (first | (go_at_call 33; refine (zz33_yes _ _ _ _ _ _ _ _ _ _ (by omega)).mono ?_; rintro e w' ⟨rfl, rfl⟩))
  refine (clone27 a1 k c1 f1 _ (by omega) (by omega) H1.out).mono ?_
  rintro e w1 ⟨rfl, hu1, hb1⟩
  have U1 := Lib.hid hu1
  have B1 := Lib.hid hb1
  clear hu1 hb1
  go_wp2_with fail
  refine (clone27 a2 k c2 f2 _ (by omega) (by omega) (U1.out.cells H2.out)).mono ?_
  rintro e w2 ⟨rfl, hu, hb2⟩
  have U2 := Lib.hid (U1.out.trans hu)
  have B2 := Lib.hid (⟨hu.blk B1.out (fun h => h), hb2⟩ : Blk w2 w.heap.size (part k k f1) 3 ∧ Blk w2 w1.heap.size (part k k f2) 3)
  clear hu hb2
  go_wp2_with fail
  refine (clone27 a3 k c3 f3 _ (by omega) (by omega) (U2.out.cells H3.out)).mono ?_
  rintro e w3 ⟨rfl, hu, hb3⟩
  have U3 := Lib.hid (U2.out.trans hu)
  have B3 := Lib.hid (⟨hu.blk B2.out.1 (fun h => h), hu.blk B2.out.2 (fun h => h), hb3⟩ : Blk w3 w.heap.size (part k k f1) 3 ∧ Blk w3 w1.heap.size (part k k f2) 3 ∧ Blk w3 w2.heap.size (part k k f3) 3)
  clear hu hb3
  go_wp2_with fail
  refine (build_frames w.heap.size w1.heap.size w2.heap.size k f1 f2 f3 _ hk B3.out.1 B3.out.2.1 B3.out.2.2).mono ?_
  rintro e w4 ⟨rfl, hu, ha, hb, hs⟩
  have U4 := Lib.hid (U3.out.trans hu)
  have B4 := Lib.hid (⟨hu.blk B3.out.1 (fun h => h), hu.blk B3.out.2.1 (fun h => h), hu.blk B3.out.2.2 (fun h => h)⟩ : Blk w4 w.heap.size (part k k f1) 3 ∧ Blk w4 w1.heap.size (part k k f2) 3 ∧ Blk w4 w2.heap.size (part k k f3) 3)
  have L4 := Lib.hid (⟨B3.out.1.lt, B3.out.2.1.lt, B3.out.2.2.lt⟩ : w.heap.size < w3.heap.size ∧ w1.heap.size < w3.heap.size ∧ w2.heap.size < w3.heap.size)
  obtain ⟨A, hA⟩ : ∃ A : Nat, w3.heap.size = A := ⟨_, rfl⟩
  rw [hA] at ha hb hs L4
  have HA := Lib.hid ha
  have HB := Lib.hid hb
  have HS := Lib.hid hs
  clear hu ha hb hs
  rw [hA]
  clear hA
  go_wp2_with fail
  have hi0 : ColInv w w4 w.heap.size w1.heap.size w2.heap.size A k (s + 1) f1 f2 f3 (built A k k f1 f2 f3) :=
    ⟨U4.out, B4.out.1, B4.out.2.1, B4.out.2.2, tab_length _ _, fun m hm => built_at _ _ _ _ _ _ (by omega), by
      rw [built_at _ _ _ _ _ _ (by omega)]
      unfold pushed newest
      rw [show k - 1 = s + 1 by omega], HA.out, by have h := HB.out; rw [show (k : Int) = ((s + 1 : Nat) : Int) + 1 by have := HK.out; omega] at h; exact h, HS.out⟩
  have HI0 := Lib.hid hi0
  clear hi0 HA HB HS B4 U4 B3 U3 B2 U2 B1 U1 H1 H2 H3
  go_loopw [9, 10] (fun i _ wr => ∃ c : Nat, c ≤ s + 1 ∧ i = .int .i64 ((c : Int) + 1) ∧ ∃ fs, ColInv w wr w.heap.size w1.heap.size w2.heap.size A k c f1 f2 f3 fs) (fun i _ _ => (intOf i).toNat)
  case atStart => exact ⟨s + 1, Nat.le_refl _, by rw [show (k : Int) = ((s + 1 : Nat) : Int) + 1 by have := HK.out; omega], _, HI0.out⟩
  case round =>
    obtain ⟨c, hc, rfl, fs, hi⟩ := hrel
    have HI := Lib.hid hi
    clear hi HI0
    by_cases hlt : 1 ≤ c
    · obtain ⟨r, rfl⟩ : ∃ r, c = r + 1 := ⟨c - 1, by omega⟩
      go_wp2_with fail
      have HLN := Lib.hid HI.out.len
      refine (remove_caller (A + 2) (A + 1) A r fs (newest A k (r + 1) f1 f2 f3) (pushed A f1 f2 f3 r) _ (by rw [HLN.out]; omega) (by rw [HLN.out]; exact hk) (by omega) (by omega) (HI.out.low _ (by omega)) HI.out.top HI.out.st HI.out.arr (by rw [HLN.out]; exact HI.out.stk)).mono ?_
      rintro e w5 ⟨rfl, hu, ha, hb⟩
      rw [HLN.out] at hb
      have hn : ColInv w w5 w.heap.size w1.heap.size w2.heap.size A k r f1 f2 f3 (fs.set r (newest A k r f1 f2 f3)) :=
        ⟨HI.out.upd.trans_new hu (fun b h => by have := L4.out; omega), hu.blk HI.out.p1 (by have := L4.out; omega), hu.blk HI.out.p2 (by have := L4.out; omega), hu.blk HI.out.p3 (by have := L4.out; omega), by rw [List.length_set]; exact HLN.out,
          fun m hm => by rw [List.getElem?_set_ne (by omega)]; exact HI.out.low m (by omega), List.getElem?_set_self (by rw [HLN.out]; omega), ha, hb, hu.blk HI.out.st (by omega)⟩
      have HN := Lib.hid hn
      clear hu ha hb hn HI HLN
      have q0 : w5.cell? ⟨A, r * 10, none⟩ = some (.int .i64 r) := HN.out.arr.at (enc_at _ r 0 _ HN.out.top (by omega))
      have q3 : w5.cell? ⟨A, r * 10 + 3, none⟩ = some (.int .i64 (f1 (k - 1))) := HN.out.arr.at (enc_at _ r 3 _ HN.out.top (by omega))
      have q4 : w5.cell? ⟨A, r * 10 + 4, none⟩ = some (.int .i64 (f2 (k - 1))) := HN.out.arr.at (enc_at _ r 4 _ HN.out.top (by omega))
      have q8 : w5.cell? ⟨A, r * 10 + 8, none⟩ = some (.int .i64 (f3 (k - 1))) := HN.out.arr.at (enc_at _ r 8 _ HN.out.top (by omega))
      have p1 : w5.cell? ⟨w.heap.size, k - 1, none⟩ = some (.int .i64 (f1 (k - 1))) := HN.out.p1.at (by unfold part; rw [tab_in (by omega), if_pos (by omega)])
      have p2 : w5.cell? ⟨w1.heap.size, k - 1, none⟩ = some (.int .i64 (f2 (k - 1))) := HN.out.p2.at (by unfold part; rw [tab_in (by omega), if_pos (by omega)])
      have p3 : w5.cell? ⟨w2.heap.size, k - 1, none⟩ = some (.int .i64 (f3 (k - 1))) := HN.out.p3.at (by unfold part; rw [tab_in (by omega), if_pos (by omega)])
      have g1 : (1 : Int) ≤ (k : Int) := by omega
      have g2 : (k : Int) - 1 < (k : Int) := by omega
      have g3 : (0 : Int) ≤ (k : Int) - 1 := by omega
      have E1 := Lib.hid (show (r : Int) + 1 + 1 - 2 = (r : Int) by omega)
      go_wp2_with (first | (go_at_call 30; refine (sp_of (A + 2) (A + 1) A k _ _ HN.out.st HN.out.stk).mono ?_; rintro e w' ⟨rfl, hw⟩; have hw := hw.symm; subst hw) | (go_at_call 31; rw [E1.out]; refine (frame_at (A + 2) (A + 1) A k r _ _ (by omega) HN.out.st HN.out.stk).mono ?_; rintro e w' ⟨rfl, hw⟩; have hw := hw.symm; subst hw))
      have hw1 : IntKind.i64.wrap ((k : Int) - 1) = (k : Int) - 1 := IntWalk.i64_in _ (by omega)
      have hw2 : IntKind.i64.wrap ((r : Int) + 1 + 1 - 2) = (r : Int) := by rw [IntWalk.i64_in _ (by omega)]; omega
      go_quiet (fail)
      clear hw1 hw2
      go_wp2
      go_roundw
      case rel => exact ⟨r, by omega, by go_num, _, HN.out.drewN _⟩
      case measure => simp [intOf]; omega
    · obtain rfl : c = 0 := by omega
      have p1 : wr.cell? ⟨w.heap.size, k - 1, none⟩ = some (.int .i64 (f1 (k - 1))) := HI.out.p1.at (by unfold part; rw [tab_in (by omega), if_pos (by omega)])
      have p2 : wr.cell? ⟨w1.heap.size, k - 1, none⟩ = some (.int .i64 (f2 (k - 1))) := HI.out.p2.at (by unfold part; rw [tab_in (by omega), if_pos (by omega)])
      have p3 : wr.cell? ⟨w2.heap.size, k - 1, none⟩ = some (.int .i64 (f3 (k - 1))) := HI.out.p3.at (by unfold part; rw [tab_in (by omega), if_pos (by omega)])
      have g1 : (1 : Int) ≤ (k : Int) := by omega
      have g2 : (k : Int) - 1 < (k : Int) := by omega
      have g3 : (0 : Int) ≤ (k : Int) - 1 := by omega
      go_wp2
      have hw1 : IntKind.i64.wrap ((k : Int) - 1) = (k : Int) - 1 := IntWalk.i64_in _ (by omega)
      go_quiet ((go_at_call 32; exact Calls.quiet_of (frame_is (A + 2) (A + 1) A k 0 _ _ _ _ _ _ hk (by omega) HI.out.top (by exact HI.out.st.drewN _) (by exact HI.out.arr.drewN _) (by exact HI.out.stk.drewN _))))
      go_wp2
      go_ret
      exact ⟨rfl, (HI.out.upd.drewN _).below (Nat.le_refl _) (fun _ h => h.elim)⟩

end Go.Proofs.YtnmjidkbaohliaaGreatFmt
