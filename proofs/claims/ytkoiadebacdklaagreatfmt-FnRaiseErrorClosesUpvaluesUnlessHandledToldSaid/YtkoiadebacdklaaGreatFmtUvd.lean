/- Upvalues laid as the cache; closing by all frames: walked. -/
import Derived.Test.YtkoiadebacdklaaGreatFmtUvc
namespace Go.Proofs.YtkoiadebacdklaaGreatFmt
open Go.RowKit
set_option maxRecDepth 100000

theorem mkNodes (k : Nat) (hk : k ≤ 1048576) (w : World) : (Instr.makeSlice 57 (.int .i64 (k : Int)) (.int .i64 (k : Int))).run Tryz.prog w = .ok (.slice (some ⟨w.heap.size, 0, none⟩) k k) (w.alloc (.cells (tab k fun _ => Value.pointer none).toArray 43)) := by
  have h := run_made (P := Tryz.prog) 57 43 (.pointer none) 8 Tryz.underlying57 (by kernel_rfl) (by decide) k (by omega) (by omega) w
  rw [show ((List.replicate k (Value.pointer none).cells.toList).flatten) = tab k fun _ => Value.pointer none by
    rw [← tab_rep]; show (List.replicate k [Value.pointer none]).flatten = _; simp] at h
  exact h

set_option maxHeartbeats 1600000 in
theorem set_upvalues (S R A B F cap top k sp : Nat) (cur : Option Addr) (dead err : Bool) (v : Nat → Value) (fr : Nat → List Value) (aI : Option Addr) (u cI : Nat) (f : Nat → Nat) (t : Nat → ByteArray) (w : World) (hu : u ≤ 4096)
    (h : S2 w S R A B F cap top k sp cur none dead err v fr) (hI : Held w w.heap.size aI u fun j => .int .i64 (f j)) :
    Calls Tryz.prog 28 #[.pointer (some ⟨S, 0, none⟩), .slice aI u cI] w fun e w' => e = .returned (.slice (some ⟨w.heap.size, 0, none⟩) u u) ∧ Upd (fun c => c = S) w w' ∧ S2 w' S R A B F cap top k sp cur (nod (w.heap.size + 1) 0 u) dead err v fr ∧
      Blk w' w.heap.size (tab u fun m => .pointer (some ⟨w.heap.size + 1 + m, 0, none⟩)) 43 ∧ Nds w' (w.heap.size + 1) R u u f t := by
  have hm := mkNodes u (by omega)
  have H := Lib.hid h
  have HI := Lib.hid hI
  clear h hI
  go_enter Tryz.func28, Tryz.ntmps28
  go_wp2
  obtain ⟨M, hM⟩ : ∃ M, w.heap.size = M := ⟨_, rfl⟩
  rw [hM]
  have HM := Lib.hid hM
  clear hM
  go_loopw [6] (fun i wr => ∃ j : Nat, j ≤ u ∧ i = .int .i64 j ∧ Upd (fun _ => False) w wr ∧ wr.heap.size = M + 1 + j ∧ Blk wr M (tab u fun m => .pointer (if m < j then some ⟨M + 1 + m, 0, none⟩ else none)) 43 ∧ ∀ m, m < j → Blk wr (M + 1 + m) (nd none R (f m) .nilIface false) 134) (fun i _ => u - (intOf i).toNat)
  case atStart => exact ⟨0, Nat.zero_le _, rfl, (Upd.refl _ _).alloc _, by simp [HM.out], Blk.new_at HM.out.symm _ _, fun m hm => absurd hm (by omega)⟩
  case round =>
    obtain ⟨j, hj, rfl, hu, hz, hb, hx⟩ := hrel
    have HU := Lib.hid hu
    have HZ := Lib.hid hz
    have HB := Lib.hid hb
    have HX := Lib.hid hx
    have hlt0 : M < wr.heap.size := by omega
    clear hu hz hb hx
    by_cases hlt : j < u
    · obtain ⟨b, off, rfl, hbl, hc⟩ := (HI.out.upd HU.out (fun c h => h.elim)) j hlt
      have s13 := (H.out.new HU.out).st.at (o := 13) rfl
      have h2 : wr.cell? ⟨M, j, none⟩ = some (.pointer none) := HB.out.at (by rw [tab_in hlt, if_neg (by omega)])
      have h3 := HB.out.free j
      have i1 : (0 : Int) ≤ (j : Int) := by omega
      have i2 : (j : Int) < (u : Int) := by omega
      have HS2 := Lib.hid (H.out.new HU.out)
      go_wp2
      go_region
      go_wp2
      go_roundw
      case rel =>
        have z := HZ.out
        refine ⟨j + 1, by omega, by go_num, ?_, ?_, ?_, ?_⟩
        · exact (((HU.out.setCell ⟨M, j, none⟩ _ (.inr (Nat.le_of_eq HM.out))).alloc _).drew)
        · show (World.alloc _ _).heap.size = _
          rw [World.size_alloc, World.size_setCell, z]; omega
        · have h := ((HB.out.set j (.pointer (some ⟨wr.heap.size, 0, none⟩))).alloc (.cells (nd none R (f j) .nilIface false).toArray 134)).drew
          rw [tab_set] at h
          rw [tab_congr (g := fun m => if m = j then Value.pointer (some ⟨wr.heap.size, 0, none⟩) else .pointer (if m < j then some ⟨M + 1 + m, 0, none⟩ else none))]
          · exact h
          · intro m _
            by_cases e : m = j
            · subst e; rw [if_pos rfl, if_pos (by omega), z]
            · rw [if_neg e]
              by_cases e2 : m < j
              · rw [if_pos e2, if_pos (by omega)]
              · rw [if_neg e2, if_neg (by omega)]
        · intro m hm
          by_cases e : m = j
          · subst e
            exact (Blk.new_at (w := wr.setCell ⟨M, m, none⟩ (.pointer (some ⟨wr.heap.size, 0, none⟩))) (by rw [World.size_setCell, z]) (nd none R (f m) .nilIface false) _).drew
          · exact (((HX.out m (by omega)).set_other _ _ (by show M + 1 + m ≠ M; omega)).alloc _).drew
      case measure => simp [intOf]; omega
    · obtain rfl : j = u := by omega
      have B1 := Lib.hid (show Blk wr M (tab j fun m => .pointer (some ⟨M + 1 + m, 0, none⟩)) 43 by
        have h := HB.out
        rw [tab_congr (g := fun m => Value.pointer (some ⟨M + 1 + m, 0, none⟩)) (fun m hm => by rw [if_pos hm])] at h
        exact h)
      have HS3 := Lib.hid (H.out.new HU.out)
      have hSM : S < M ∧ R < M ∧ A < M ∧ B < M ∧ F < M := by have := H.out.st.lt; have := H.out.rg.lt; have := H.out.ar.lt; have := H.out.sk.lt; have := H.out.fs.lt; have := HM.out; omega
      have HSM := Lib.hid hSM
      clear hSM
      clear HB H
      go_wp2
      go_loopw [7] (fun i wq => ∃ q : Nat, (q ≤ j ∧ (q = 0 ∨ q < j)) ∧ i = .int .i64 q ∧ Upd (fun _ => False) w wq ∧ S2 wq S R A B F cap top k sp cur none dead err v fr ∧ Blk wq M (tab j fun m => .pointer (some ⟨M + 1 + m, 0, none⟩)) 43 ∧ ∀ m, m < j → Blk wq (M + 1 + m) (nd (if m < q then some ⟨M + 1 + (m + 1), 0, none⟩ else none) R (f m) .nilIface false) 134) (fun i _ => j - (intOf i).toNat)
      case atStart => exact ⟨0, ⟨Nat.zero_le _, .inl rfl⟩, rfl, HU.out, HS3.out, B1.out, fun m hm => by rw [if_neg (by omega)]; exact HX.out m hm⟩
      case round =>
        obtain ⟨q, ⟨hq, hq2⟩, rfl, hu2, hs2, hb2, hx2⟩ := hrel
        have HU2 := Lib.hid hu2
        have HS4 := Lib.hid hs2
        have HB2 := Lib.hid hb2
        have HX2 := Lib.hid hx2
        clear hu2 hs2 hb2 hx2 HU HS3 B1 HX
        by_cases hlt2 : q + 1 < j
        · have i1 : (q : Int) + 1 < (j : Int) := by omega
          have i0 : (0 : Int) ≤ (q : Int) := by omega
          have i3 : (q : Int) < (j : Int) := by omega
          have i4 : (0 : Int) ≤ (q : Int) + 1 := by omega
          have hw : IntKind.i64.wrap ((q : Int) + 1) = (q : Int) + 1 := IntWalk.i64_in _ (by omega)
          have ht : ((q : Int) + 1).toNat = q + 1 := by omega
          go_wp2
          refine wp_region_tail_at 11 (by kernel_rfl) (by kernel_rfl) (fun W1 hW1 => ?_)
          have UP := Lib.hid (show Upd (fun _ => False) w W1 by rw [hW1]; exact HU2.out.drew)
          have H5 := Lib.hid (show S2 W1 S R A B F cap top k sp cur none dead err v fr by rw [hW1]; exact HS4.out.new ((Upd.refl _ _).drew))
          have B5 := Lib.hid (show Blk W1 M (tab j fun m => .pointer (some ⟨M + 1 + m, 0, none⟩)) 43 by rw [hW1]; exact HB2.out)
          have X5 := Lib.hid (show ∀ m, m < j → Blk W1 (M + 1 + m) (nd (if m < q then some ⟨M + 1 + (m + 1), 0, none⟩ else none) R (f m) .nilIface false) 134 by rw [hW1]; exact HX2.out)
          clear hW1 HU2 HS4 HB2 HX2
          have n1 := B5.out.at (tab_in (m := q) (by omega))
          have n2 := B5.out.at (tab_in (m := q + 1) (by omega))
          obtain ⟨Y, hY⟩ : ∃ Y, M + 1 + q = Y := ⟨_, rfl⟩
          have hy := X5.out q (by omega)
          rw [hY] at n1 hy
          have y0 := hy.at (o := 0) rfl
          have yf := hy.free 0
          have HY := Lib.hid hY
          have HYB := Lib.hid hy
          clear hY hy
          simp only [List.take_succ_cons, List.take_zero, List.drop_succ_cons, List.drop_zero]
          repeat still_step
          refine wpStill_nil ?_
          go_wp2
          go_roundw
          case rel =>
            have hY := HY.out
            refine ⟨q + 1, ⟨by omega, .inr (by omega)⟩, by go_num, UP.out.setCell _ _ (.inr (by show w.heap.size ≤ Y; have := HM.out; omega)), H5.out.upd (T := fun c => c = Y) ((Upd.refl _ _).setCell _ _ (.inl rfl)) ?_, B5.out.set_other _ _ (by show M ≠ Y; omega), ?_⟩
            · have := HSM.out
              refine ⟨?_, ?_, ?_, ?_, ?_⟩ <;> omega
            · intro m hm
              by_cases e : m = q
              · subst e
                rw [if_pos (by omega), hY]
                exact HYB.out.set 0 _
              · have h := (X5.out m hm).set_other ⟨Y, 0, none⟩ (.pointer (some ⟨M + 1 + (q + 1), 0, none⟩)) (by show M + 1 + m ≠ Y; omega)
                by_cases e2 : m < q
                · rw [if_pos (by omega)]
                  rw [if_pos e2] at h
                  exact h
                · rw [if_neg (by omega)]
                  rw [if_neg e2] at h
                  exact h
          case measure => simp [intOf]; omega
        · by_cases hj0 : j = 0
          · subst hj0
            have s18 := HS4.out.st.at (o := 18) rfl
            have sf := HS4.out.st.free 18
            go_wp2
            go_ret
            have d := HS4.out.dis
            have hM := HM.out
            have sm := HSM.out
            have e : nod (w.heap.size + 1) 0 0 = none := by unfold nod; rw [if_neg (by omega)]
            rw [e]
            refine ⟨by rw [hM]; rfl, (HU2.out.mono (fun _ _ h => h.elim)).setCell _ _ (.inl rfl), ⟨d, HS4.out.st.set 18 _, HS4.out.rg.set_other _ _ (by show R ≠ S; omega), HS4.out.ar.set_other _ _ (by show A ≠ S; omega), HS4.out.fs.set_other _ _ (by show F ≠ S; omega), HS4.out.sk.set_other _ _ (by show B ≠ S; omega)⟩, ?_, fun i hi => absurd hi (by omega)⟩
            rw [hM]
            exact HB2.out.set_other _ _ (by show M ≠ S; omega)
          · have hqj : q + 1 = j := by omega
            have s18 := HS4.out.st.at (o := 18) rfl
            have sf := HS4.out.st.free 18
            have n0 : wr.cell? ⟨M, 0, none⟩ = some (.pointer (some ⟨M + 1, 0, none⟩)) := HB2.out.at (tab_in (m := 0) (by omega))
            have i1 : (0 : Int) < (j : Int) := by omega
            have hs' : ¬ (q : Int) + 1 < (j : Int) := by omega
            have HQJ := Lib.hid hqj
            have HJ0 := Lib.hid hj0
            clear hqj hj0
            go_wp2
            go_ret
            have d := HS4.out.dis
            have hM := HM.out
            have sm := HSM.out
            have hj0 := HJ0.out
            have hqj := HQJ.out
            have e : nod (w.heap.size + 1) 0 j = some ⟨M + 1, 0, none⟩ := by unfold nod; rw [if_pos (by omega), hM]
            rw [e]
            refine ⟨by rw [hM]; rfl, (HU2.out.mono (fun _ _ h => h.elim)).setCell _ _ (.inl rfl), ⟨d, HS4.out.st.set 18 _, HS4.out.rg.set_other _ _ (by show R ≠ S; omega), HS4.out.ar.set_other _ _ (by show A ≠ S; omega), HS4.out.fs.set_other _ _ (by show F ≠ S; omega), HS4.out.sk.set_other _ _ (by show B ≠ S; omega)⟩, ?_, fun i hi => ?_⟩
            · rw [hM]
              exact HB2.out.set_other _ _ (by show M ≠ S; omega)
            · rw [hM]
              have h := (HX2.out i hi).set_other ⟨S, 18, none⟩ (.pointer (some ⟨M + 1, 0, none⟩)) (by show M + 1 + i ≠ S; omega)
              have e1 : (if i < q then some (⟨M + 1 + (i + 1), 0, none⟩ : Addr) else none) = nod (M + 1) (i + 1) j := by
                unfold nod
                by_cases h1 : i < q
                · rw [if_pos h1, if_pos (by omega)]
                · rw [if_neg h1, if_neg (by omega)]
              rw [e1] at h
              have e2 : decide (j ≤ i) = false := decide_eq_false (by omega)
              rw [e2, if_neg (by omega)]
              exact h
end Go.Proofs.YtkoiadebacdklaaGreatFmt
