/- FnRemoveCallerFrameDeletesCallerSlot inside its guards, walked. -/
import Derived.Test.YtnmjidkbaohliaaGreatFmtDelOut
import Derived.Deep.LoopGhost
namespace Go.Proofs.YtnmjidkbaohliaaGreatFmt
open Go.RowKit
set_option maxRecDepth 100000

/-- The frames behind RemoveCallerFrame. -/
def removed (A k s : Nat) (f1 f2 f3 : Nat → Int) : List Fr := (built A k k f1 f2 f3).set s ⟨s, if s = 0 then none else some ⟨A, (s - 1) * 10, none⟩, f1 (s + 1), f2 (s + 1), f3 (s + 1)⟩

theorem built_at (A k m : Nat) (f1 f2 f3 : Nat → Int) (h : m < k) : (built A k k f1 f2 f3)[m]? = some (pushed A f1 f2 f3 m) := by
  unfold built
  rw [tab_in h, if_pos h]

theorem removed_at (A k s i : Nat) (f1 f2 f3 : Nat → Int) (hs : s + 2 = k) (hi : i ≤ s) :
    (removed A k s f1 f2 f3)[i]? = some ⟨i, if i = 0 then none else some ⟨A, (i - 1) * 10, none⟩, f1 (if i = s then s + 1 else i), f2 (if i = s then s + 1 else i), f3 (if i = s then s + 1 else i)⟩ := by
  unfold removed
  by_cases h : i = s
  · subst h
    rw [List.getElem?_set_self (by unfold built; rw [tab_length]; omega)]
    simp
  · rw [List.getElem?_set_ne (Ne.symm h), built_at _ _ _ _ _ _ (by omega)]
    simp [h, pushed]

/-- What stays as it is while the law looks at the frames. -/
structure DelInv (w wr : World) (b1 b2 b3 A k s : Nat) (f1 f2 f3 : Nat → Int) : Prop where
  upd : Upd (fun _ => False) w wr
  p1 : Blk wr b1 (part k k f1) 3
  p2 : Blk wr b2 (part k k f2) 3
  p3 : Blk wr b3 (part k k f3) 3
  arr : Blk wr A (enc (removed A k s f1 f2 f3)) 71
  stk : Blk wr (A + 1) (stk A k ((s : Int) + 1)) 141
  st : Blk wr (A + 2) (stt (A + 1)) 108
theorem DelInv.drewN {w wr : World} {b1 b2 b3 A k s : Nat} {f1 f2 f3 : Nat → Int} (h : DelInv w wr b1 b2 b3 A k s f1 f2 f3) (n : Nat) : DelInv w (wr.drewN n) b1 b2 b3 A k s f1 f2 f3 :=
  ⟨h.upd.drewN n, h.p1.drewN n, h.p2.drewN n, h.p3.drewN n, h.arr.drewN n, h.stk.drewN n, h.st.drewN n⟩

set_option maxHeartbeats 1600000 in
theorem deletes_in (a1 a2 a3 : Addr) (k s c1 c2 c3 : Nat) (f1 f2 f3 : Nat → Int) (w : World) (hk : k ≤ 4096) (hks : s + 2 = k)
    (h1 : ∀ j, j < k → w.cell? (a1.add j) = some (.int .i64 (f1 j))) (h2 : ∀ j, j < k → w.cell? (a2.add j) = some (.int .i64 (f2 j))) (h3 : ∀ j, j < k → w.cell? (a3.add j) = some (.int .i64 (f3 j))) :
    Calls Tryz.prog 6 #[.slice (some a1) k c1, .slice (some a2) k c2, .slice (some a3) k c3] w (Good w) := by
  have H1 := Lib.hid h1
  have H2 := Lib.hid h2
  have H3 := Lib.hid h3
  have hk1 : s + 2 ≤ k := by omega
  have hk2 : k ≤ s + 2 := by omega
  have HK := Lib.hid hks
  have d1 : decide ((4096 : Int) < (k : Int)) = false := decide_eq_false (by omega)
  have d2 : decide ((k : Int) < 2) = false := decide_eq_false (by omega)
  clear h1 h2 h3 hks
  go_enter Tryz.func6, Tryz.ntmps6
  go_wp2_with (first | (go_at_call 26; refine (zz26_yes _ _ _ _ _ _ _ _ _ _ (by omega)).mono ?_; rintro e w' ⟨rfl, rfl⟩))
  refine (clone27 a1 k c1 f1 _ (by omega) (by omega) H1.out).mono ?_
  rintro e w1 ⟨rfl, hu1, hb1⟩
  have U1 := Lib.hid hu1
  have B1 := Lib.hid hb1
  clear hu1 hb1
  go_wp2_with fail
  refine (clone27 a2 k c2 f2 _ (by omega) (by omega) (U1.out.cells H2.out)).mono ?_
  rintro e w2 ⟨rfl, hu, hb2⟩
  have U2 := Lib.hid (U1.out.trans hu)
  have B2 := Lib.hid (⟨hu.blk B1.out (fun h => h), hb2⟩ : Blk w2 w.heap.size (part k k f1) 3 ∧ Blk w2 w1.heap.size (part k k f2) 3)
  clear hu hb2
  go_wp2_with fail
  refine (clone27 a3 k c3 f3 _ (by omega) (by omega) (U2.out.cells H3.out)).mono ?_
  rintro e w3 ⟨rfl, hu, hb3⟩
  have U3 := Lib.hid (U2.out.trans hu)
  have B3 := Lib.hid (⟨hu.blk B2.out.1 (fun h => h), hu.blk B2.out.2 (fun h => h), hb3⟩ : Blk w3 w.heap.size (part k k f1) 3 ∧ Blk w3 w1.heap.size (part k k f2) 3 ∧ Blk w3 w2.heap.size (part k k f3) 3)
  clear hu hb3
  go_wp2_with fail
  refine (build_frames w.heap.size w1.heap.size w2.heap.size k f1 f2 f3 _ hk B3.out.1 B3.out.2.1 B3.out.2.2).mono ?_
  rintro e w4 ⟨rfl, hu, ha, hb, hs⟩
  have U4 := Lib.hid (U3.out.trans hu)
  have B4 := Lib.hid (⟨hu.blk B3.out.1 (fun h => h), hu.blk B3.out.2.1 (fun h => h), hu.blk B3.out.2.2 (fun h => h)⟩ : Blk w4 w.heap.size (part k k f1) 3 ∧ Blk w4 w1.heap.size (part k k f2) 3 ∧ Blk w4 w2.heap.size (part k k f3) 3)
  have L4 := Lib.hid (⟨B3.out.1.lt, B3.out.2.1.lt, B3.out.2.2.lt⟩ : w.heap.size < w3.heap.size ∧ w1.heap.size < w3.heap.size ∧ w2.heap.size < w3.heap.size)
  obtain ⟨A, hA⟩ : ∃ A : Nat, w3.heap.size = A := ⟨_, rfl⟩
  rw [hA] at ha hb hs L4
  have HA := Lib.hid ha
  have HB := Lib.hid hb
  have HS := Lib.hid hs
  clear hu ha hb hs
  rw [hA]
  clear hA
  go_wp2_with fail
  have hbl : (built A k k f1 f2 f3).length = k := tab_length _ _
  have ekI : (k : Int) = (s : Int) + 1 + 1 := by have := HK.out; omega
  have HL := Lib.hid hbl
  have HEK := Lib.hid ekI
  clear hbl ekI
  refine (remove_caller (A + 2) (A + 1) A s (built A k k f1 f2 f3) (pushed A f1 f2 f3 (s + 1)) (pushed A f1 f2 f3 s) _ (by rw [HL.out]; omega) (by rw [HL.out]; exact hk) (by omega) (by omega) (built_at _ _ _ _ _ _ (by omega)) (built_at _ _ _ _ _ _ (by omega)) HS.out HA.out (by rw [HL.out, ← HEK.out]; exact HB.out)).mono ?_
  rintro e w5 ⟨rfl, hu, ha, hb⟩
  rw [HL.out] at hb
  have U5 := Lib.hid (U4.out.trans_new hu (fun b h => by have := L4.out; omega))
  have B5 := Lib.hid (⟨hu.blk B4.out.1 (by have := L4.out; omega), hu.blk B4.out.2.1 (by have := L4.out; omega), hu.blk B4.out.2.2 (by have := L4.out; omega)⟩ : Blk w5 w.heap.size (part k k f1) 3 ∧ Blk w5 w1.heap.size (part k k f2) 3 ∧ Blk w5 w2.heap.size (part k k f3) 3)
  have HA5 := Lib.hid (show Blk w5 A (enc (removed A k s f1 f2 f3)) 71 from ha)
  have HB5 := Lib.hid hb
  have HS5 := Lib.hid (hu.blk HS.out (by omega))
  clear hu ha hb HA HB HS B4 U4 B3 U3 B2 U2 B1 U1 H1 H2 H3
  have E1 := Lib.hid (show (k : Int) - 2 = (s : Int) by have := HK.out; omega)
  go_wp2_with (first | (go_at_call 30; refine (sp_of (A + 2) (A + 1) A k _ _ HS5.out HB5.out).mono ?_; rintro e w' ⟨rfl, hw⟩; have hw := hw.symm; subst hw) | (go_at_call 31; rw [E1.out]; refine (frame_at (A + 2) (A + 1) A k s _ _ (by omega) HS5.out HB5.out).mono ?_; rintro e w' ⟨rfl, hw⟩; have hw := hw.symm; subst hw))
  have HI0 := Lib.hid (⟨U5.out, B5.out.1, B5.out.2.1, B5.out.2.2, HA5.out, HB5.out, HS5.out⟩ : DelInv w w5 w.heap.size w1.heap.size w2.heap.size A k s f1 f2 f3)
  clear U5 B5 HA5 HB5 HS5
  go_loopw [10, 11] (fun i _ wr => ∃ j : Nat, j ≤ s + 1 ∧ i = .int .i64 j ∧ DelInv w wr w.heap.size w1.heap.size w2.heap.size A k s f1 f2 f3) (fun i _ _ => s + 1 - (intOf i).toNat)
  case atStart => exact ⟨0, Nat.zero_le _, rfl, HI0.out⟩
  case round =>
    obtain ⟨j, hj, rfl, hi⟩ := hrel
    have HI := Lib.hid hi
    clear hi HI0
    by_cases hlt : j < s + 1
    · have HF := Lib.hid (removed_at A k s j f1 f2 f3 HK.out (by omega))
      by_cases he : j = s
      · skip
        have p1 : wr.cell? ⟨w.heap.size, k - 1, none⟩ = some (.int .i64 (f1 (s + 1))) := HI.out.p1.at (by unfold part; rw [tab_in (by omega), if_pos (by omega), show k - 1 = s + 1 by omega])
        have p2 : wr.cell? ⟨w1.heap.size, k - 1, none⟩ = some (.int .i64 (f2 (s + 1))) := HI.out.p2.at (by unfold part; rw [tab_in (by omega), if_pos (by omega), show k - 1 = s + 1 by omega])
        have p3 : wr.cell? ⟨w2.heap.size, k - 1, none⟩ = some (.int .i64 (f3 (s + 1))) := HI.out.p3.at (by unfold part; rw [tab_in (by omega), if_pos (by omega), show k - 1 = s + 1 by omega])
        have HF2 := Lib.hid (show (removed A k s f1 f2 f3)[j]? = some ⟨j, if j = 0 then none else some ⟨A, (j - 1) * 10, none⟩, f1 (s + 1), f2 (s + 1), f3 (s + 1)⟩ by have := HF.out; rw [if_pos he] at this; exact this)
        have hj1 : s ≤ j := by omega
        have hj2 : j ≤ s := by omega
        have g1 : (1 : Int) ≤ (k : Int) := by omega
        have g2 : (k : Int) - 1 < (k : Int) := by omega
        have g3 : (0 : Int) ≤ (k : Int) - 1 := by omega
        clear he HF
        go_wp2
        go_quiet ((go_at_call 32; exact Calls.quiet_of (frame_is (A + 2) (A + 1) A k j _ _ _ _ _ _ hk (by omega) HF2.out (by exact HI.out.st.drewN _) (by exact HI.out.arr.drewN _) (by exact HI.out.stk.drewN _))))
        go_wp2
        go_roundw
        case rel => exact ⟨j + 1, by omega, by go_num, HI.out.drewN _⟩
        case measure => simp [intOf]; omega
      · skip
        have p1 : wr.cell? ⟨w.heap.size, j, none⟩ = some (.int .i64 (f1 j)) := HI.out.p1.at (by unfold part; rw [tab_in (by omega), if_pos (by omega)])
        have p2 : wr.cell? ⟨w1.heap.size, j, none⟩ = some (.int .i64 (f2 j)) := HI.out.p2.at (by unfold part; rw [tab_in (by omega), if_pos (by omega)])
        have p3 : wr.cell? ⟨w2.heap.size, j, none⟩ = some (.int .i64 (f3 j)) := HI.out.p3.at (by unfold part; rw [tab_in (by omega), if_pos (by omega)])
        have HF2 := Lib.hid (show (removed A k s f1 f2 f3)[j]? = some ⟨j, if j = 0 then none else some ⟨A, (j - 1) * 10, none⟩, f1 j, f2 j, f3 j⟩ by have := HF.out; rw [if_neg he] at this; exact this)
        have hj1 : j < s := by omega
        have g1 : (j : Int) < (k : Int) := by omega
        clear he HF
        go_wp2
        go_quiet ((go_at_call 32; exact Calls.quiet_of (frame_is (A + 2) (A + 1) A k j _ _ _ _ _ _ hk (by omega) HF2.out (by exact HI.out.st.drewN _) (by exact HI.out.arr.drewN _) (by exact HI.out.stk.drewN _))))
        go_wp2
        go_roundw
        case rel => exact ⟨j + 1, by omega, by go_num, HI.out.drewN _⟩
        case measure => simp [intOf]; omega
    · go_wp2
      go_ret
      exact ⟨rfl, HI.out.upd.below (Nat.le_refl _) (fun _ h => h.elim)⟩
end Go.Proofs.YtnmjidkbaohliaaGreatFmt
