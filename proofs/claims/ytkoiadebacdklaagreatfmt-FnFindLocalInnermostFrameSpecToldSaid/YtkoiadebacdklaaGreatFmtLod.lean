/- FnFindLocalInnermostFrameSpec, walked. -/
import Derived.Test.YtkoiadebacdklaaGreatFmtLoc
import Derived.RegionTactic
import Derived.BigRegion
namespace Go.Proofs.YtkoiadebacdklaaGreatFmt
open Go.RowKit
set_option maxRecDepth 100000

theorem mkLoc (k : Nat) (hk : k ≤ 1048576) (w : World) : (Instr.makeSlice 50 (.int .i64 (k : Int)) (.int .i64 (k : Int))).run Tryz.prog w = .ok (.slice (some ⟨w.heap.size, 0, none⟩) k k) (w.alloc (.cells (tab k fun _ => Value.pointer none).toArray 51)) := by
  have h := run_made (P := Tryz.prog) 50 51 (Value.pointer none) 8 Tryz.underlying50 (by kernel_rfl) (by decide) k (by omega) (by omega) w
  have e : (List.replicate k (Value.pointer none).cells.toList).flatten = tab k fun _ => Value.pointer none := by
    rw [← tab_rep]
    show (List.replicate k [Value.pointer none]).flatten = _
    rw [List.flatten_replicate_singleton]
  rw [e] at h
  exact h

set_option maxHeartbeats 400000 in
theorem zz_find_local (no : Int) (w : World) (L : Nat) (x : Nat → ByteArray) (en : Nat → Int) (pc d : Int) (g : Bool)
    (S F : Nat) (h : Calls Tryz.prog 60 #[.pointer (some ⟨S, 0, none⟩), .pointer (some ⟨F, 0, none⟩), .int .i64 no] w (IsInner L x en no pc d g w)) :
    Calls Tryz.prog 23 #[.pointer (some ⟨S, 0, none⟩), .pointer (some ⟨F, 0, none⟩), .int .i64 no] w (IsInner L x en no pc d g w) := by
  go_enter Tryz.func23, Tryz.ntmps23
  go_wp2_with fail
  refine h.mono ?_
  rintro e w' ⟨s, rfl, hi, hu⟩
  have HI := Lib.hid hi
  have HU := Lib.hid hu
  clear hi hu
  go_wp2
  go_ret
  exact ⟨s, rfl, HI.out, HU.out⟩

set_option maxHeartbeats 6400000 in
theorem find_in (aN aS aE : Option Addr) (n cN u cS k cE : Nat) (s : Nat → ByteArray) (st en : Nat → Int) (p0 lb top no : Int) (g : Bool) (w : World) (hn : n ≤ 4096) (hu : u ≤ 4096) (hk : k ≤ 4096) (h1 : -9223372036854775808 ≤ no) (h2 : no ≤ 9223372036854775807)
    (hN : Cells w aN n fun j => .string (s j)) (hS : Cells w aS u fun j => .int .i64 (st j)) (hE : Cells w aE k fun j => .int .i64 (en j)) :
    Calls Tryz.prog 4 #[.slice aN n cN, .slice aS u cS, .slice aE k cE, .int .i64 p0, .int .i64 lb, .int .i64 top, .int .i64 no, .bool g] w (Good w) := by
  have HN := Lib.hid hN
  have HS := Lib.hid hS
  have HE := Lib.hid hE
  clear hN hS hE
  go_enter Tryz.func4, Tryz.ntmps4
  go_wp2_with fail
  refine (guard_find aN aS aE n cN u cS k cE p0 lb top no g s _ (by omega) (by omega) (by omega) HN.out).mono ?_
  rintro e w' ⟨b, rfl, rfl, hs⟩
  cases b with
  | false =>
    go_wp2
    go_ret
    exact ⟨rfl, Below.refl _ _⟩
  | true =>
    have HSZ := Lib.hid (hs rfl)
    clear hs
    go_wp2_with fail
    refine (str_bytes aN n cN s _ hn HN.out HSZ.out).mono ?_
    rintro e w' ⟨z, hz, rfl, rfl⟩
    by_cases hbig : z + 8 * u + 8 * k ≤ 1048576
    case neg =>
      go_wp2
      go_ret
      exact ⟨rfl, Below.refl _ _⟩
    by_cases hun : u = n
    case neg =>
      go_wp2
      go_ret
      exact ⟨rfl, Below.refl _ _⟩
    subst hun
    by_cases hkn : k = u
    case neg =>
      go_wp2
      go_ret
      exact ⟨rfl, Below.refl _ _⟩
    subst hkn
    by_cases l1 : lb < 0
    · go_wp2
      go_ret
      exact ⟨rfl, Below.refl _ _⟩
    by_cases l2 : 65536 < lb
    · go_wp2
      go_ret
      exact ⟨rfl, Below.refl _ _⟩
    by_cases l3 : top < lb
    · go_wp2
      go_ret
      exact ⟨rfl, Below.refl _ _⟩
    by_cases l4 : 65536 < top
    · go_wp2
      go_ret
      exact ⟨rfl, Below.refl _ _⟩
    obtain ⟨T, rfl⟩ : ∃ T : Nat, top = (T : Int) := ⟨top.toNat, by omega⟩
    go_wp2_with fail
    refine (cloneStr aN k cN s _ (by omega) HN.out).mono ?_
    rintro e w1 ⟨a1, c1, rfl, hu1, h1'⟩
    have U1 := Lib.hid hu1
    have H1 := Lib.hid (Held.of_new h1')
    clear hu1 h1'
    go_wp2_with fail
    refine (cloneInt aS k cS st _ (by omega) (HS.out.upd U1.out)).mono ?_
    rintro e w2 ⟨a2, c2, rfl, hu2, h2'⟩
    have U2 := Lib.hid (U1.out.trans hu2)
    have H1 := Lib.hid ((H1.out.upd hu2 (fun c h => h.elim)).mono hu2.size)
    have H2 := Lib.hid (Held.of_new h2')
    clear hu2 h2' U1
    go_wp2_with fail
    refine (cloneInt aE k cE en _ (by omega) (HE.out.upd U2.out)).mono ?_
    rintro e w3 ⟨a3, c3, rfl, hu3, h3'⟩
    have U3 := Lib.hid (U2.out.trans hu3)
    have H1 := Lib.hid ((H1.out.upd hu3 (fun c h => h.elim)).mono hu3.size)
    have H2 := Lib.hid ((H2.out.upd hu3 (fun c h => h.elim)).mono hu3.size)
    have H3 := Lib.hid (Held.of_new h3')
    clear hu3 h3' U2 HN HS HE HSZ hz hbig
    have hmk := mkLoc k (by omega)
    go_wp2_with fail
    obtain ⟨D, hD⟩ : ∃ D, w3.heap.size = D := ⟨_, rfl⟩
    rw [hD]
    have HM := Lib.hid hD
    clear hD hmk
    go_loopw [18] (fun i wr => ∃ j : Nat, j ≤ k ∧ i = .int .i64 j ∧ Upd (fun _ => False) w3 wr ∧ wr.heap.size = D + 1 + j ∧ Blk wr D (tab k fun m => .pointer (if m < j then some ⟨D + 1 + m, 0, none⟩ else none)) 51 ∧ ∀ m, m < j → Blk wr (D + 1 + m) [.string (s m), .int .i64 (st m), .int .i64 (en m)] 53) (fun i _ => k - (intOf i).toNat)
    case atStart => exact ⟨0, Nat.zero_le _, rfl, (Upd.refl _ _).alloc _, by simp [HM.out], Blk.new_at HM.out.symm _ _, fun m hm => absurd hm (by omega)⟩
    case round =>
      obtain ⟨j, hj, rfl, hu, hz, hb, hx⟩ := hrel
      have HU := Lib.hid hu
      have HZ := Lib.hid hz
      have HB := Lib.hid hb
      have HX := Lib.hid hx
      have hlt0 : D < wr.heap.size := by omega
      clear hu hz hb hx
      by_cases hlt : j < k
      · obtain ⟨b1, off1, rfl, hbl1, hc1⟩ := (H1.out.upd HU.out (fun c h => h.elim)) j hlt
        obtain ⟨b2, off2, rfl, hbl2, hc2⟩ := (H2.out.upd HU.out (fun c h => h.elim)) j hlt
        obtain ⟨b3, off3, rfl, hbl3, hc3⟩ := (H3.out.upd HU.out (fun c h => h.elim)) j hlt
        have hs1 : b1 < wr.heap.size := World.block_lt_of_cell? wr _ hc1
        have hs2 : b2 < wr.heap.size := World.block_lt_of_cell? wr _ hc2
        have hs3 : b3 < wr.heap.size := World.block_lt_of_cell? wr _ hc3
        have nb1 : b1 ≠ D := by have := HM.out; omega
        have nb2 : b2 ≠ D := by have := HM.out; omega
        have nb3 : b3 ≠ D := by have := HM.out; omega
        have q2 : wr.cell? ⟨D, j, none⟩ = some (.pointer none) := HB.out.at (by rw [tab_in hlt, if_neg (by omega)])
        have q3 := HB.out.free j
        have i1 : (0 : Int) ≤ (j : Int) := by omega
        have i2 : (j : Int) < (k : Int) := by omega
        clear hbl1 hbl2 hbl3
        go_wp2
        go_region
        go_wp2
        go_roundw
        case rel =>
          have z := HZ.out
          refine ⟨j + 1, by omega, by go_num, ?_, ?_, ?_, ?_⟩
          · exact (((HU.out.setCell ⟨D, j, none⟩ _ (.inr (Nat.le_of_eq HM.out))).alloc _).drew)
          · show (World.alloc _ _).heap.size = _
            rw [World.size_alloc, World.size_setCell, z]; omega
          · have h := ((HB.out.set j (.pointer (some ⟨wr.heap.size, 0, none⟩))).alloc (.cells [Value.string (s j), .int .i64 (st j), .int .i64 (en j)].toArray 53)).drew
            rw [tab_set] at h
            rw [tab_congr (g := fun m => if m = j then Value.pointer (some ⟨wr.heap.size, 0, none⟩) else .pointer (if m < j then some ⟨D + 1 + m, 0, none⟩ else none))]
            · exact h
            · intro m _
              by_cases e : m = j
              · subst e; rw [if_pos rfl, if_pos (by omega), z]
              · rw [if_neg e]
                by_cases e2 : m < j
                · rw [if_pos e2, if_pos (by omega)]
                · rw [if_neg e2, if_neg (by omega)]
          · intro m hm
            by_cases e : m = j
            · subst e
              exact (Blk.new_at (w := wr.setCell ⟨D, m, none⟩ (.pointer (some ⟨wr.heap.size, 0, none⟩))) (by rw [World.size_setCell, z]) [Value.string (s m), .int .i64 (st m), .int .i64 (en m)] _).drew
            · exact (((HX.out m (by omega)).set_other _ _ (by show D + 1 + m ≠ D; omega)).alloc _).drew
        case measure => simp [intOf]; omega
      · obtain rfl : j = k := by omega
        have B1 := Lib.hid (show Blk wr D (tab j fun m => .pointer (some ⟨D + 1 + m, 0, none⟩)) 51 by
          have h := HB.out
          rw [tab_congr (g := fun m => Value.pointer (some ⟨D + 1 + m, 0, none⟩)) (fun m hm => by rw [if_pos hm])] at h
          exact h)
        clear HB
        obtain ⟨pc, hpc⟩ : ∃ pc, IntKind.i64.wrap (p0 - 1) = pc := ⟨_, rfl⟩
        obtain ⟨L, hLim⟩ := lim_any st pc j
        cases g with
        | true =>
          go_wp2_with fail
          have HFN : Blk (wr.alloc (.cells (fnl true none).toArray 59)) wr.heap.size (fnl true none) 59 := Blk.new _ _ _
          have UA := Lib.hid (show Upd (fun _ => False) wr (wr.alloc (.cells (fnl true none).toArray 59)) from (Upd.refl _ _).alloc _)
          refine (new_state2 T 1 1 _ (by omega) (by omega) (by omega)).mono ?_
          rintro e w5 ⟨S, R, A, B, F, rfl, hu5, hold, hs5⟩
          simp only [World.size_alloc] at hold
          have bF := hu5.blk HFN (fun h => h)
          have hDl := B1.out.lt
          have hDD := Lib.hid (hu5.blk (UA.out.blk B1.out (fun h => h)) (fun h => h))
          have hLL := Lib.hid (show ∀ i, i < j → Blk w5 (D + 1 + i) [.string (s i), .int .i64 (st i), .int .i64 (en i)] 53 from fun i hi => hu5.blk (UA.out.blk (HX.out i hi) (fun h => h)) (fun h => h))
          have hLt := Lib.hid (show ∀ i, i < j → D + 1 + i < wr.heap.size from fun i hi => (HX.out i hi).lt)
          have T5 := Lib.hid (((U3.out.trans HU.out).trans UA.out).trans hu5)
          have V5 := Lib.hid ((HU.out.trans UA.out).trans hu5)
          have hwz := HU.out.size
          have hwz3 := U3.out.size
          have hne : ∀ b, b < wr.heap.size + 1 → ¬ (b = S ∨ b = F ∨ b = B) := fun b hb h => by omega
          have hge : ∀ b, (b = S ∨ b = F ∨ b = B) → w3.heap.size ≤ b := fun b h => by omega
          have HNE := Lib.hid hne
          have HGE := Lib.hid hge
          have S5 := Lib.hid hs5
          have BF := Lib.hid bF
          clear hu5 hs5 bF hne hge HFN UA HU hwz
          go_wp2_with fail
          refine (push_frame S R A B F (T + 1) T 1 0 wr.heap.size none none false false _ (fun _ => fr0) lb lb p0 _ (by omega) (by omega) (fun _ _ => rfl) (by exact S5.out)).mono ?_
          rintro e w6 ⟨rfl, hu6, hs6⟩
          have S6 := Lib.hid hs6
          have b6F := Lib.hid (hu6.blk BF.out (HNE.out _ (by omega)))
          have b6D := Lib.hid (hu6.blk hDD.out (HNE.out _ (by omega)))
          have b6L := Lib.hid (show ∀ i, i < j → Blk w6 (D + 1 + i) [.string (s i), .int .i64 (st i), .int .i64 (en i)] 53 from fun i hi => hu6.blk (hLL.out i hi) (HNE.out _ (by have := hLt.out i hi; omega)))
          have K1 := Lib.hid ((H1.out.upd V5.out (fun _ h => h.elim)).upd hu6 HGE.out)
          have K2 := Lib.hid ((H2.out.upd V5.out (fun _ h => h.elim)).upd hu6 HGE.out)
          have K3 := Lib.hid ((H3.out.upd V5.out (fun _ h => h.elim)).upd hu6 HGE.out)
          have T6 := Lib.hid (T5.out.trans_new hu6 (fun b hb => Nat.le_trans hwz3 (HGE.out b hb)))
          clear hu6 hs6 S5 BF hDD hLL hLt T5 V5 HNE HGE H1 H2 H3 U3
          go_wp2_with fail
          refine (frame_at S R A B F (T + 1) T 1 1 0 _ _ _ _ _ _ _ (by omega) (by exact S6.out)).mono ?_
          rintro e w' ⟨rfl, rfl⟩
          go_wp2_with fail
          refine (zz_find_local no _ L s en pc ((T : Int) - lb) true S F (find_local S R A B F (T + 1) T wr.heap.size (wr.heap.size + 1) D j L _ s st en p0 pc lb no true _ (by omega) (by omega) h1 h2 (by omega) hpc hLim (by exact S6.out) (by exact b6F.out) (fun h => by cases h) (by exact b6D.out) (by exact b6L.out))).mono ?_
          rintro e w7 ⟨t1, rfl, hi1, hu7⟩
          have I1 := Lib.hid hi1
          have T7 := Lib.hid (T6.out.trans hu7)
          have K1 := Lib.hid (K1.out.upd hu7 (fun _ h => h.elim))
          have K2 := Lib.hid (K2.out.upd hu7 (fun _ h => h.elim))
          have K3 := Lib.hid (K3.out.upd hu7 (fun _ h => h.elim))
          clear hi1 hu7 S6 T6 b6F b6D b6L
          go_wp2_with fail
          refine (model a1 a2 a3 j c1 c2 c3 L s st en p0 pc lb T no true _ (by omega) h1 h2 (by omega) hpc hLim K1.out.cells K2.out.cells K3.out.cells).mono ?_
          rintro e w8 ⟨t2, rfl, hi2, hu8⟩
          obtain rfl : t1 = t2 := I1.out.same hi2
          have T8 := Lib.hid (T7.out.trans hu8)
          clear hi2 hu8 I1 T7 K1 K2 K3
          go_wp2
          go_ret
          exact ⟨rfl, T8.out.below (Nat.le_refl _) (fun _ h => h.elim)⟩
        | false =>
          go_wp2_with fail
          have HFN : Blk ((wr.alloc (.cells (fnl false (some ⟨wr.heap.size + 1, 0, none⟩)).toArray 59)).alloc (.cells (pro D j).toArray 65)) wr.heap.size (fnl false (some ⟨wr.heap.size + 1, 0, none⟩)) 59 := (Blk.new _ _ _).alloc _
          have HPR : Blk ((wr.alloc (.cells (fnl false (some ⟨wr.heap.size + 1, 0, none⟩)).toArray 59)).alloc (.cells (pro D j).toArray 65)) (wr.heap.size + 1) (pro D j) 65 := Blk.new_at (by simp) _ _
          have UA := Lib.hid (show Upd (fun _ => False) wr ((wr.alloc (.cells (fnl false (some ⟨wr.heap.size + 1, 0, none⟩)).toArray 59)).alloc (.cells (pro D j).toArray 65)) from ((Upd.refl _ _).alloc _).alloc _)
          refine (new_state2 T 1 1 _ (by omega) (by omega) (by omega)).mono ?_
          rintro e w5 ⟨S, R, A, B, F, rfl, hu5, hold, hs5⟩
          simp only [World.size_alloc] at hold
          have bF := hu5.blk HFN (fun h => h)
          have BP := Lib.hid (hu5.blk HPR (fun h => h))
          have OLDP := Lib.hid (show wr.heap.size + 1 < S ∧ wr.heap.size + 1 < F ∧ wr.heap.size + 1 < B by omega)
          have hDl := B1.out.lt
          have hDD := Lib.hid (hu5.blk (UA.out.blk B1.out (fun h => h)) (fun h => h))
          have hLL := Lib.hid (show ∀ i, i < j → Blk w5 (D + 1 + i) [.string (s i), .int .i64 (st i), .int .i64 (en i)] 53 from fun i hi => hu5.blk (UA.out.blk (HX.out i hi) (fun h => h)) (fun h => h))
          have hLt := Lib.hid (show ∀ i, i < j → D + 1 + i < wr.heap.size from fun i hi => (HX.out i hi).lt)
          have T5 := Lib.hid (((U3.out.trans HU.out).trans UA.out).trans hu5)
          have V5 := Lib.hid ((HU.out.trans UA.out).trans hu5)
          have hwz := HU.out.size
          have hwz3 := U3.out.size
          have hne : ∀ b, b < wr.heap.size + 1 → ¬ (b = S ∨ b = F ∨ b = B) := fun b hb h => by omega
          have hge : ∀ b, (b = S ∨ b = F ∨ b = B) → w3.heap.size ≤ b := fun b h => by omega
          have HNE := Lib.hid hne
          have HGE := Lib.hid hge
          have S5 := Lib.hid hs5
          have BF := Lib.hid bF
          clear HPR hu5 hs5 bF hne hge HFN UA HU hwz
          go_wp2_with fail
          refine (push_frame S R A B F (T + 1) T 1 0 wr.heap.size none none false false _ (fun _ => fr0) lb lb p0 _ (by omega) (by omega) (fun _ _ => rfl) (by exact S5.out)).mono ?_
          rintro e w6 ⟨rfl, hu6, hs6⟩
          have S6 := Lib.hid hs6
          have b6F := Lib.hid (hu6.blk BF.out (HNE.out _ (by omega)))
          have b6D := Lib.hid (hu6.blk hDD.out (HNE.out _ (by omega)))
          have b6L := Lib.hid (show ∀ i, i < j → Blk w6 (D + 1 + i) [.string (s i), .int .i64 (st i), .int .i64 (en i)] 53 from fun i hi => hu6.blk (hLL.out i hi) (HNE.out _ (by have := hLt.out i hi; omega)))
          have b6P := Lib.hid (hu6.blk BP.out (fun h => by have := OLDP.out; omega))
          have K1 := Lib.hid ((H1.out.upd V5.out (fun _ h => h.elim)).upd hu6 HGE.out)
          have K2 := Lib.hid ((H2.out.upd V5.out (fun _ h => h.elim)).upd hu6 HGE.out)
          have K3 := Lib.hid ((H3.out.upd V5.out (fun _ h => h.elim)).upd hu6 HGE.out)
          have T6 := Lib.hid (T5.out.trans_new hu6 (fun b hb => Nat.le_trans hwz3 (HGE.out b hb)))
          clear hu6 hs6 S5 BF hDD hLL hLt T5 V5 HNE HGE H1 H2 H3 U3
          go_wp2_with fail
          refine (frame_at S R A B F (T + 1) T 1 1 0 _ _ _ _ _ _ _ (by omega) (by exact S6.out)).mono ?_
          rintro e w' ⟨rfl, rfl⟩
          go_wp2_with fail
          refine (zz_find_local no _ L s en pc ((T : Int) - lb) false S F (find_local S R A B F (T + 1) T wr.heap.size (wr.heap.size + 1) D j L _ s st en p0 pc lb no false _ (by omega) (by omega) h1 h2 (by omega) hpc hLim (by exact S6.out) (by exact b6F.out) (fun _ => by exact b6P.out) (by exact b6D.out) (by exact b6L.out))).mono ?_
          rintro e w7 ⟨t1, rfl, hi1, hu7⟩
          have I1 := Lib.hid hi1
          have T7 := Lib.hid (T6.out.trans hu7)
          have K1 := Lib.hid (K1.out.upd hu7 (fun _ h => h.elim))
          have K2 := Lib.hid (K2.out.upd hu7 (fun _ h => h.elim))
          have K3 := Lib.hid (K3.out.upd hu7 (fun _ h => h.elim))
          clear hi1 hu7 S6 T6 b6F b6D b6L
          go_wp2_with fail
          refine (model a1 a2 a3 j c1 c2 c3 L s st en p0 pc lb T no false _ (by omega) h1 h2 (by omega) hpc hLim K1.out.cells K2.out.cells K3.out.cells).mono ?_
          rintro e w8 ⟨t2, rfl, hi2, hu8⟩
          obtain rfl : t1 = t2 := I1.out.same hi2
          have T8 := Lib.hid (T7.out.trans hu8)
          clear hi2 hu8 I1 T7 K1 K2 K3
          go_wp2
          go_ret
          exact ⟨rfl, T8.out.below (Nat.le_refl _) (fun _ h => h.elim)⟩
end Go.Proofs.YtkoiadebacdklaaGreatFmt
