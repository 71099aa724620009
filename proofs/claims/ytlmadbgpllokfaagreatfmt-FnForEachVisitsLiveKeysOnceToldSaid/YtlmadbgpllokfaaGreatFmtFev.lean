/- FnForEachVisitsLiveKeysOnce: walked. -/
import Derived.Test.YtlmadbgpllokfaaGreatFmtFew
import Derived.Deep.RegionHeld3
namespace Go.Proofs.YtlmadbgpllokfaaGreatFmt
open Go.RowKit Go.Mapy Go.Tbl
set_option maxRecDepth 100000

set_option maxHeartbeats 25600000 in
theorem fev_in (aI : Option Addr) (nI cI : Nat) (ik : Nat → Int) (aV : Option Addr) (nV cV : Nat) (iv : Nat → Nat) (aD : Option Addr) (nD cD : Nat) (id : Nat → Bool) (aS : Option Addr) (nS cS : Nat) (sk : Nat → ByteArray) (aW : Option Addr) (nW cW : Nat) (sv : Nat → Nat) (aE : Option Addr) (nE cE : Nat) (sd : Nat → Bool) (w : World) (lnI : nI ≤ 4096) (lnV : nV ≤ 4096) (lnD : nD ≤ 4096) (lnS : nS ≤ 4096) (lnW : nW ≤ 4096) (lnE : nE ≤ 4096) (hnI : Cells w aI nI fun j => .int .i64 (ik j)) (hnV : Cells w aV nV fun j => .float .f64 (iv j)) (hnD : Cells w aD nD fun j => .bool (id j)) (hnS : Cells w aS nS fun j => .string (sk j)) (hnW : Cells w aW nW fun j => .float .f64 (sv j)) (hnE : Cells w aE nE fun j => .bool (sd j)) :
    Calls Tryz.prog 9 #[.slice aI nI cI, .slice aV nV cV, .slice aD nD cD, .slice aS nS cS, .slice aW nW cW, .slice aE nE cE] w (Good w) := by
  have HI := Lib.hid hnI
  have HV := Lib.hid hnV
  have HD := Lib.hid hnD
  have HS := Lib.hid hnS
  have HW := Lib.hid hnW
  have HE := Lib.hid hnE
  clear hnI hnV hnD hnS hnW hnE
  go_enter Tryz.func9, Tryz.ntmps9
  obtain ⟨wb, hwb⟩ : ∃ wb, wb = ((((((w.alloc (.cells #[.slice aI nI cI] 93)).alloc (.cells #[.slice aV nV cV] 58)).alloc (.cells #[.slice aD nD cD] 59)).alloc (.cells #[.slice aS nS cS] 57)).alloc (.cells #[.slice aW nW cW] 58)).alloc (.cells #[.slice aE nE cE] 59)) := ⟨_, rfl⟩
  obtain ⟨g0, g1, g2, g3, g4, g5, gu⟩ := six_box w _ _ _ _ _ _ hwb
  have y0 := g0.at (o := 0) rfl
  have y1 := g1.at (o := 0) rfl
  have y2 := g2.at (o := 0) rfl
  have y3 := g3.at (o := 0) rfl
  have y4 := g4.at (o := 0) rfl
  have y5 := g5.at (o := 0) rfl
  rw [hwb] at y0 y1 y2 y3 y4 y5
  go_wp2_with fail
  rw [← hwb]
  obtain ⟨p5, hp5⟩ : ∃ p, w.heap.size + 1 + 1 + 1 + 1 + 1 = p := ⟨_, rfl⟩
  rw [hp5] at g5 ⊢
  obtain ⟨p4, hp4⟩ : ∃ p, w.heap.size + 1 + 1 + 1 + 1 = p := ⟨_, rfl⟩
  rw [hp4] at g4 ⊢
  obtain ⟨p3, hp3⟩ : ∃ p, w.heap.size + 1 + 1 + 1 = p := ⟨_, rfl⟩
  rw [hp3] at g3 ⊢
  obtain ⟨p2, hp2⟩ : ∃ p, w.heap.size + 1 + 1 = p := ⟨_, rfl⟩
  rw [hp2] at g2 ⊢
  obtain ⟨p1, hp1⟩ : ∃ p, w.heap.size + 1 = p := ⟨_, rfl⟩
  rw [hp1] at g1 ⊢
  obtain ⟨p0, hp0⟩ : ∃ p, w.heap.size = p := ⟨_, rfl⟩
  rw [hp0] at g0 ⊢
  have LOW := Lib.hid (show Low w p0 p1 p2 p3 p4 p5 from ⟨by omega, by omega, by omega, by omega, by omega, by omega⟩)
  have SX := Lib.hid (Six.mk g0 g1 g2 g3 g4 g5)
  have UB := Lib.hid gu
  clear hp0 hp1 hp2 hp3 hp4 hp5 g0 g1 g2 g3 g4 g5 gu hwb y0 y1 y2 y3 y4 y5
  have y0 := SX.out.z0.at (o := 0) rfl
  have y1 := SX.out.z1.at (o := 0) rfl
  have y2 := SX.out.z2.at (o := 0) rfl
  have y3 := SX.out.z3.at (o := 0) rfl
  have y4 := SX.out.z4.at (o := 0) rfl
  have y5 := SX.out.z5.at (o := 0) rfl
  refine (guard_fev aI nI cI aV nV cV aD nD cD aS nS cS aW nW cW aE nE cE sk _ (by omega) (by omega) (by omega) (by omega) (by omega) (by omega) (HS.out.upd UB.out)).mono ?_
  rintro e w' ⟨b, rfl, rfl⟩
  cases b with
  | false =>
    go_wp2
    go_ret
    exact ⟨rfl, UB.out.below (Nat.le_refl _) (fun _ h => h.elim)⟩
  | true =>
    obtain ⟨z1, hz1⟩ : ∃ z, zz sk nS 0 (16 * nS) = z := ⟨_, rfl⟩
    have hzl : z1 ≤ 1048577 := by rw [← hz1]; exact zz_le _ _ _ _ (by omega)
    have SB := Lib.hid (fun (W : World) (hW : Upd (fun _ => False) wb W) => str_bytesZ aS nS cS sk W lnS (HS.out.upd (UB.out.trans hW)))
    rw [hz1] at SB
    clear hz1
    go_wp2_with fail
    go_quiet ((go_at_call 25; exact Calls.quiet_of_same ((SB.out _ ((Upd.refl _ _).drewN _)).mono (fun _ _ h => ⟨h.1, h.2.symm⟩))))
    by_cases hbig : 8 * nI + 8 * nV + nD + z1 + 8 * nW + nE ≤ 1048576
    case neg =>
      go_wp2
      go_ret
      exact ⟨rfl, (UB.out.drewN _).below (Nat.le_refl _) (fun _ h => h.elim)⟩
    clear SB
    go_wp2_with fail
    obtain ⟨wc, hwc⟩ : ∃ wc, wc = wb.drewN nq := ⟨_, rfl⟩
    have UC := Lib.hid (show Upd (fun _ => False) wb wc by rw [hwc]; exact (Upd.refl _ _).drewN _)
    rw [← hwc]
    clear hwc y0 y1 y2 y3 y4 y5 hbig
    replace SX := Lib.hid (SX.out.keep UC.out)
    have UW := Lib.hid (UB.out.trans UC.out)
    clear UC UB
    refine (min_three nI nV nD _).mono ?_
    rintro e w' ⟨rfl, rfl⟩
    obtain ⟨ni, hn⟩ : ∃ n, n = min nI (min nV nD) := ⟨_, rfl⟩
    have ni1 : ni ≤ nI := by omega
    have ni2 : ni ≤ nV := by omega
    have ni3 : ni ≤ nD := by omega
    rw [← hn]
    clear hn
    obtain ⟨w1, hwn⟩ : ∃ W, W = wc.alloc (.cells #[.int .i64 ni] 3) := ⟨_, rfl⟩
    have hun : Upd (fun _ => False) wc w1 := by rw [hwn]; exact (Upd.refl _ _).alloc _
    have qn : Blk w1 wc.heap.size [.int .i64 ni] 3 := by rw [hwn]; exact Blk.new _ _ _
    have LTp6 := Lib.hid (show p5 < wc.heap.size from SX.out.z5.lt)
    replace SX := Lib.hid (SX.out.keep hun)
    replace UW := Lib.hid (UW.out.trans hun)
    have y3 := SX.out.z3.at (o := 0) rfl
    have y4 := SX.out.z4.at (o := 0) rfl
    have y5 := SX.out.z5.at (o := 0) rfl
    rw [hwn] at y3 y4 y5
    go_wp2_with fail
    rw [← hwn]
    obtain ⟨p6, hp⟩ : ∃ p, wc.heap.size = p := ⟨_, rfl⟩
    rw [hp] at qn LTp6 ⊢
    have Q6 := Lib.hid qn
    clear hp hun qn hwn y3 y4 y5
    refine (min_three nS nW nE _).mono ?_
    rintro e w' ⟨rfl, rfl⟩
    obtain ⟨ns, hn⟩ : ∃ n, n = min nS (min nW nE) := ⟨_, rfl⟩
    have ns1 : ns ≤ nS := by omega
    have ns2 : ns ≤ nW := by omega
    have ns3 : ns ≤ nE := by omega
    rw [← hn]
    clear hn
    obtain ⟨w2, hwn⟩ : ∃ W, W = w1.alloc (.cells #[.int .i64 ns] 3) := ⟨_, rfl⟩
    have hun : Upd (fun _ => False) w1 w2 := by rw [hwn]; exact (Upd.refl _ _).alloc _
    have qn : Blk w2 w1.heap.size [.int .i64 ns] 3 := by rw [hwn]; exact Blk.new _ _ _
    have LTp7 := Lib.hid (show p5 < w1.heap.size from SX.out.z5.lt)
    replace SX := Lib.hid (SX.out.keep hun)
    replace UW := Lib.hid (UW.out.trans hun)
    have LQ6 := Lib.hid (show p6 < w1.heap.size from Q6.out.lt)
    replace Q6 := Lib.hid (hun.blk Q6.out (fun h => h))
    have q6 := Q6.out.at (o := 0) rfl
    have y0 := SX.out.z0.at (o := 0) rfl
    have y1 := SX.out.z1.at (o := 0) rfl
    have y2 := SX.out.z2.at (o := 0) rfl
    rw [hwn] at y0 y1 y2 q6
    go_wp2_with fail
    rw [← hwn]
    obtain ⟨p7, hp⟩ : ∃ p, w1.heap.size = p := ⟨_, rfl⟩
    rw [hp] at qn LTp7 ⊢
    have Q7 := Lib.hid qn
    rw [hp] at LQ6
    clear hp hun qn hwn y0 y1 y2 q6
    refine (script_ok aI aV aD nI cI nV cV nD cD ni ik iv id _ ni1 ni2 ni3 lnI lnV (HI.out.upd UW.out) (HV.out.upd UW.out) (HD.out.upd UW.out)).mono ?_
    rintro e w3 ⟨b, rfl, hu, hb1⟩
    replace SX := Lib.hid (SX.out.keep hu)
    replace UW := Lib.hid (UW.out.trans hu)
    replace Q6 := Lib.hid (hu.blk Q6.out (fun h => h))
    replace Q7 := Lib.hid (hu.blk Q7.out (fun h => h))
    have B1 := Lib.hid hb1
    clear hu hb1
    have y4 := SX.out.z4.at (o := 0) rfl
    have y5 := SX.out.z5.at (o := 0) rfl
    have q7 := Q7.out.at (o := 0) rfl
    cases b with
    | false =>
      go_wp2
      go_ret
      exact ⟨rfl, UW.out.below (Nat.le_refl _) (fun _ h => h.elim)⟩
    | true =>
      have KO := Lib.hid (B1.out rfl).1
      have SO := Lib.hid (B1.out rfl).2
      clear B1
      go_wp2_with fail
      refine (stored_ok aW aE nW cW nE cE ns sv sd _ ns2 ns3 lnW (HW.out.upd UW.out) (HE.out.upd UW.out)).mono ?_
      rintro e w4 ⟨b, rfl, hu, hb2⟩
      replace SX := Lib.hid (SX.out.keep hu)
      replace UW := Lib.hid (UW.out.trans hu)
      replace Q6 := Lib.hid (hu.blk Q6.out (fun h => h))
      replace Q7 := Lib.hid (hu.blk Q7.out (fun h => h))
      have B2 := Lib.hid hb2
      clear hu hb2
      cases b with
      | false =>
        go_wp2
        go_ret
        exact ⟨rfl, UW.out.below (Nat.le_refl _) (fun _ h => h.elim)⟩
      | true =>
        have SP := Lib.hid (B2.out rfl)
        clear B2
        have y0 := SX.out.z0.at (o := 0) rfl
        go_wp2_with fail
        clear y4 y5 q7 y0
        refine (cloneInt aI nI cI ik _ (by omega) (HI.out.upd UW.out)).mono ?_
        rintro e wc1 ⟨a1, c1, rfl, hu, h1⟩
        have hlo := SX.out.z5.lt
        replace SX := Lib.hid (SX.out.keep hu)
        replace UW := Lib.hid (UW.out.trans hu)
        replace Q6 := Lib.hid (hu.blk Q6.out (fun h => h))
        replace Q7 := Lib.hid (hu.blk Q7.out (fun h => h))
        have H1 := Lib.hid (Far.new (lo := p5 + 1) h1 hlo)
        have f0 := SX.out.z0.free 0
        have y0 := SX.out.z0.at (o := 0) rfl
        obtain ⟨wd1, hwd⟩ : ∃ W, W = wc1.setCell ⟨p0, 0, none⟩ (.slice a1 nI c1) := ⟨_, rfl⟩
        have hus : Upd (fun c => c = p0) wc1 wd1 := by rw [hwd]; exact (Upd.refl _ _).setCell _ _ (.inl rfl)
        have low := LOW.out
        replace SX := Lib.hid (show Six wd1 p0 p1 p2 p3 p4 p5 (.slice a1 nI c1) (.slice aV nV cV) (.slice aD nD cD) (.slice aS nS cS) (.slice aW nW cW) (.slice aE nE cE) by rw [hwd]; exact SX.out.set0 LOW.out _)
        replace UW := Lib.hid (UW.out.trans_new hus (fun c h => by obtain ⟨h0, h1, h2, h3, h4, h5⟩ := low; have h : c = p0 := h; omega))
        replace Q6 := Lib.hid (hus.blk Q6.out (fun h => by obtain ⟨h0, h1, h2, h3, h4, h5⟩ := low; have h : p6 = p0 := h; have := LTp6.out; omega))
        replace Q7 := Lib.hid (hus.blk Q7.out (fun h => by obtain ⟨h0, h1, h2, h3, h4, h5⟩ := low; have h : p7 = p0 := h; have := LTp7.out; omega))
        replace H1 := Lib.hid ((H1.out.upd hus (fun c h => .inl (by obtain ⟨h0, h1, h2, h3, h4, h5⟩ := low; have h : c = p0 := h; omega))).more hus.size)
        have y1 := SX.out.z1.at (o := 0) rfl
        rw [hwd] at y1
        clear hu h1 hlo hus low
        go_wp2_with fail
        rw [← hwd]
        clear hwd y1
        refine (cloneFlo aV nV cV iv _ (by omega) (HV.out.upd UW.out)).mono ?_
        rintro e wc2 ⟨a2, c2, rfl, hu, h1⟩
        have hlo := SX.out.z5.lt
        replace SX := Lib.hid (SX.out.keep hu)
        replace UW := Lib.hid (UW.out.trans hu)
        replace Q6 := Lib.hid (hu.blk Q6.out (fun h => h))
        replace Q7 := Lib.hid (hu.blk Q7.out (fun h => h))
        replace H1 := Lib.hid ((H1.out.upd hu (fun _ h => h.elim)).more hu.size)
        have H2 := Lib.hid (Far.new (lo := p5 + 1) h1 hlo)
        have f1 := SX.out.z1.free 0
        have y1 := SX.out.z1.at (o := 0) rfl
        obtain ⟨wd2, hwd⟩ : ∃ W, W = wc2.setCell ⟨p1, 0, none⟩ (.slice a2 nV c2) := ⟨_, rfl⟩
        have hus : Upd (fun c => c = p1) wc2 wd2 := by rw [hwd]; exact (Upd.refl _ _).setCell _ _ (.inl rfl)
        have low := LOW.out
        replace SX := Lib.hid (show Six wd2 p0 p1 p2 p3 p4 p5 (.slice a1 nI c1) (.slice a2 nV c2) (.slice aD nD cD) (.slice aS nS cS) (.slice aW nW cW) (.slice aE nE cE) by rw [hwd]; exact SX.out.set1 LOW.out _)
        replace UW := Lib.hid (UW.out.trans_new hus (fun c h => by obtain ⟨h0, h1, h2, h3, h4, h5⟩ := low; have h : c = p1 := h; omega))
        replace Q6 := Lib.hid (hus.blk Q6.out (fun h => by obtain ⟨h0, h1, h2, h3, h4, h5⟩ := low; have h : p6 = p1 := h; have := LTp6.out; omega))
        replace Q7 := Lib.hid (hus.blk Q7.out (fun h => by obtain ⟨h0, h1, h2, h3, h4, h5⟩ := low; have h : p7 = p1 := h; have := LTp7.out; omega))
        replace H1 := Lib.hid ((H1.out.upd hus (fun c h => .inl (by obtain ⟨h0, h1, h2, h3, h4, h5⟩ := low; have h : c = p1 := h; omega))).more hus.size)
        replace H2 := Lib.hid ((H2.out.upd hus (fun c h => .inl (by obtain ⟨h0, h1, h2, h3, h4, h5⟩ := low; have h : c = p1 := h; omega))).more hus.size)
        have y2 := SX.out.z2.at (o := 0) rfl
        rw [hwd] at y2
        clear hu h1 hlo hus low
        go_wp2_with fail
        rw [← hwd]
        clear hwd y2
        refine (cloneBool aD nD cD id _ (by omega) (HD.out.upd UW.out)).mono ?_
        rintro e wc3 ⟨a3, c3, rfl, hu, h1⟩
        have hlo := SX.out.z5.lt
        replace SX := Lib.hid (SX.out.keep hu)
        replace UW := Lib.hid (UW.out.trans hu)
        replace Q6 := Lib.hid (hu.blk Q6.out (fun h => h))
        replace Q7 := Lib.hid (hu.blk Q7.out (fun h => h))
        replace H1 := Lib.hid ((H1.out.upd hu (fun _ h => h.elim)).more hu.size)
        replace H2 := Lib.hid ((H2.out.upd hu (fun _ h => h.elim)).more hu.size)
        have H3 := Lib.hid (Far.new (lo := p5 + 1) h1 hlo)
        have f2 := SX.out.z2.free 0
        have y2 := SX.out.z2.at (o := 0) rfl
        obtain ⟨wd3, hwd⟩ : ∃ W, W = wc3.setCell ⟨p2, 0, none⟩ (.slice a3 nD c3) := ⟨_, rfl⟩
        have hus : Upd (fun c => c = p2) wc3 wd3 := by rw [hwd]; exact (Upd.refl _ _).setCell _ _ (.inl rfl)
        have low := LOW.out
        replace SX := Lib.hid (show Six wd3 p0 p1 p2 p3 p4 p5 (.slice a1 nI c1) (.slice a2 nV c2) (.slice a3 nD c3) (.slice aS nS cS) (.slice aW nW cW) (.slice aE nE cE) by rw [hwd]; exact SX.out.set2 LOW.out _)
        replace UW := Lib.hid (UW.out.trans_new hus (fun c h => by obtain ⟨h0, h1, h2, h3, h4, h5⟩ := low; have h : c = p2 := h; omega))
        replace Q6 := Lib.hid (hus.blk Q6.out (fun h => by obtain ⟨h0, h1, h2, h3, h4, h5⟩ := low; have h : p6 = p2 := h; have := LTp6.out; omega))
        replace Q7 := Lib.hid (hus.blk Q7.out (fun h => by obtain ⟨h0, h1, h2, h3, h4, h5⟩ := low; have h : p7 = p2 := h; have := LTp7.out; omega))
        replace H1 := Lib.hid ((H1.out.upd hus (fun c h => .inl (by obtain ⟨h0, h1, h2, h3, h4, h5⟩ := low; have h : c = p2 := h; omega))).more hus.size)
        replace H2 := Lib.hid ((H2.out.upd hus (fun c h => .inl (by obtain ⟨h0, h1, h2, h3, h4, h5⟩ := low; have h : c = p2 := h; omega))).more hus.size)
        replace H3 := Lib.hid ((H3.out.upd hus (fun c h => .inl (by obtain ⟨h0, h1, h2, h3, h4, h5⟩ := low; have h : c = p2 := h; omega))).more hus.size)
        have y3 := SX.out.z3.at (o := 0) rfl
        rw [hwd] at y3
        clear hu h1 hlo hus low
        go_wp2_with fail
        rw [← hwd]
        clear hwd y3
        refine (cloneStr aS nS cS sk _ (by omega) (HS.out.upd UW.out)).mono ?_
        rintro e wc4 ⟨a4, c4, rfl, hu, h1⟩
        have hlo := SX.out.z5.lt
        replace SX := Lib.hid (SX.out.keep hu)
        replace UW := Lib.hid (UW.out.trans hu)
        replace Q6 := Lib.hid (hu.blk Q6.out (fun h => h))
        replace Q7 := Lib.hid (hu.blk Q7.out (fun h => h))
        replace H1 := Lib.hid ((H1.out.upd hu (fun _ h => h.elim)).more hu.size)
        replace H2 := Lib.hid ((H2.out.upd hu (fun _ h => h.elim)).more hu.size)
        replace H3 := Lib.hid ((H3.out.upd hu (fun _ h => h.elim)).more hu.size)
        have H4 := Lib.hid (Far.new (lo := p5 + 1) h1 hlo)
        have f3 := SX.out.z3.free 0
        have y3 := SX.out.z3.at (o := 0) rfl
        obtain ⟨wd4, hwd⟩ : ∃ W, W = wc4.setCell ⟨p3, 0, none⟩ (.slice a4 nS c4) := ⟨_, rfl⟩
        have hus : Upd (fun c => c = p3) wc4 wd4 := by rw [hwd]; exact (Upd.refl _ _).setCell _ _ (.inl rfl)
        have low := LOW.out
        replace SX := Lib.hid (show Six wd4 p0 p1 p2 p3 p4 p5 (.slice a1 nI c1) (.slice a2 nV c2) (.slice a3 nD c3) (.slice a4 nS c4) (.slice aW nW cW) (.slice aE nE cE) by rw [hwd]; exact SX.out.set3 LOW.out _)
        replace UW := Lib.hid (UW.out.trans_new hus (fun c h => by obtain ⟨h0, h1, h2, h3, h4, h5⟩ := low; have h : c = p3 := h; omega))
        replace Q6 := Lib.hid (hus.blk Q6.out (fun h => by obtain ⟨h0, h1, h2, h3, h4, h5⟩ := low; have h : p6 = p3 := h; have := LTp6.out; omega))
        replace Q7 := Lib.hid (hus.blk Q7.out (fun h => by obtain ⟨h0, h1, h2, h3, h4, h5⟩ := low; have h : p7 = p3 := h; have := LTp7.out; omega))
        replace H1 := Lib.hid ((H1.out.upd hus (fun c h => .inl (by obtain ⟨h0, h1, h2, h3, h4, h5⟩ := low; have h : c = p3 := h; omega))).more hus.size)
        replace H2 := Lib.hid ((H2.out.upd hus (fun c h => .inl (by obtain ⟨h0, h1, h2, h3, h4, h5⟩ := low; have h : c = p3 := h; omega))).more hus.size)
        replace H3 := Lib.hid ((H3.out.upd hus (fun c h => .inl (by obtain ⟨h0, h1, h2, h3, h4, h5⟩ := low; have h : c = p3 := h; omega))).more hus.size)
        replace H4 := Lib.hid ((H4.out.upd hus (fun c h => .inl (by obtain ⟨h0, h1, h2, h3, h4, h5⟩ := low; have h : c = p3 := h; omega))).more hus.size)
        have y4 := SX.out.z4.at (o := 0) rfl
        rw [hwd] at y4
        clear hu h1 hlo hus low
        go_wp2_with fail
        rw [← hwd]
        clear hwd y4
        refine (cloneFlo aW nW cW sv _ (by omega) (HW.out.upd UW.out)).mono ?_
        rintro e wc5 ⟨a5, c5, rfl, hu, h1⟩
        have hlo := SX.out.z5.lt
        replace SX := Lib.hid (SX.out.keep hu)
        replace UW := Lib.hid (UW.out.trans hu)
        replace Q6 := Lib.hid (hu.blk Q6.out (fun h => h))
        replace Q7 := Lib.hid (hu.blk Q7.out (fun h => h))
        replace H1 := Lib.hid ((H1.out.upd hu (fun _ h => h.elim)).more hu.size)
        replace H2 := Lib.hid ((H2.out.upd hu (fun _ h => h.elim)).more hu.size)
        replace H3 := Lib.hid ((H3.out.upd hu (fun _ h => h.elim)).more hu.size)
        replace H4 := Lib.hid ((H4.out.upd hu (fun _ h => h.elim)).more hu.size)
        have H5 := Lib.hid (Far.new (lo := p5 + 1) h1 hlo)
        have f4 := SX.out.z4.free 0
        have y4 := SX.out.z4.at (o := 0) rfl
        obtain ⟨wd5, hwd⟩ : ∃ W, W = wc5.setCell ⟨p4, 0, none⟩ (.slice a5 nW c5) := ⟨_, rfl⟩
        have hus : Upd (fun c => c = p4) wc5 wd5 := by rw [hwd]; exact (Upd.refl _ _).setCell _ _ (.inl rfl)
        have low := LOW.out
        replace SX := Lib.hid (show Six wd5 p0 p1 p2 p3 p4 p5 (.slice a1 nI c1) (.slice a2 nV c2) (.slice a3 nD c3) (.slice a4 nS c4) (.slice a5 nW c5) (.slice aE nE cE) by rw [hwd]; exact SX.out.set4 LOW.out _)
        replace UW := Lib.hid (UW.out.trans_new hus (fun c h => by obtain ⟨h0, h1, h2, h3, h4, h5⟩ := low; have h : c = p4 := h; omega))
        replace Q6 := Lib.hid (hus.blk Q6.out (fun h => by obtain ⟨h0, h1, h2, h3, h4, h5⟩ := low; have h : p6 = p4 := h; have := LTp6.out; omega))
        replace Q7 := Lib.hid (hus.blk Q7.out (fun h => by obtain ⟨h0, h1, h2, h3, h4, h5⟩ := low; have h : p7 = p4 := h; have := LTp7.out; omega))
        replace H1 := Lib.hid ((H1.out.upd hus (fun c h => .inl (by obtain ⟨h0, h1, h2, h3, h4, h5⟩ := low; have h : c = p4 := h; omega))).more hus.size)
        replace H2 := Lib.hid ((H2.out.upd hus (fun c h => .inl (by obtain ⟨h0, h1, h2, h3, h4, h5⟩ := low; have h : c = p4 := h; omega))).more hus.size)
        replace H3 := Lib.hid ((H3.out.upd hus (fun c h => .inl (by obtain ⟨h0, h1, h2, h3, h4, h5⟩ := low; have h : c = p4 := h; omega))).more hus.size)
        replace H4 := Lib.hid ((H4.out.upd hus (fun c h => .inl (by obtain ⟨h0, h1, h2, h3, h4, h5⟩ := low; have h : c = p4 := h; omega))).more hus.size)
        replace H5 := Lib.hid ((H5.out.upd hus (fun c h => .inl (by obtain ⟨h0, h1, h2, h3, h4, h5⟩ := low; have h : c = p4 := h; omega))).more hus.size)
        have y5 := SX.out.z5.at (o := 0) rfl
        rw [hwd] at y5
        clear hu h1 hlo hus low
        go_wp2_with fail
        rw [← hwd]
        clear hwd y5
        refine (cloneBool aE nE cE sd _ (by omega) (HE.out.upd UW.out)).mono ?_
        rintro e wc6 ⟨a6, c6, rfl, hu, h1⟩
        have hlo := SX.out.z5.lt
        replace SX := Lib.hid (SX.out.keep hu)
        replace UW := Lib.hid (UW.out.trans hu)
        replace Q6 := Lib.hid (hu.blk Q6.out (fun h => h))
        replace Q7 := Lib.hid (hu.blk Q7.out (fun h => h))
        replace H1 := Lib.hid ((H1.out.upd hu (fun _ h => h.elim)).more hu.size)
        replace H2 := Lib.hid ((H2.out.upd hu (fun _ h => h.elim)).more hu.size)
        replace H3 := Lib.hid ((H3.out.upd hu (fun _ h => h.elim)).more hu.size)
        replace H4 := Lib.hid ((H4.out.upd hu (fun _ h => h.elim)).more hu.size)
        replace H5 := Lib.hid ((H5.out.upd hu (fun _ h => h.elim)).more hu.size)
        have H6 := Lib.hid (Far.new (lo := p5 + 1) h1 hlo)
        have f5 := SX.out.z5.free 0
        have y5 := SX.out.z5.at (o := 0) rfl
        obtain ⟨wd6, hwd⟩ : ∃ W, W = wc6.setCell ⟨p5, 0, none⟩ (.slice a6 nE c6) := ⟨_, rfl⟩
        have hus : Upd (fun c => c = p5) wc6 wd6 := by rw [hwd]; exact (Upd.refl _ _).setCell _ _ (.inl rfl)
        have low := LOW.out
        replace SX := Lib.hid (show Six wd6 p0 p1 p2 p3 p4 p5 (.slice a1 nI c1) (.slice a2 nV c2) (.slice a3 nD c3) (.slice a4 nS c4) (.slice a5 nW c5) (.slice a6 nE c6) by rw [hwd]; exact SX.out.set5 LOW.out _)
        replace UW := Lib.hid (UW.out.trans_new hus (fun c h => by obtain ⟨h0, h1, h2, h3, h4, h5⟩ := low; have h : c = p5 := h; omega))
        replace Q6 := Lib.hid (hus.blk Q6.out (fun h => by obtain ⟨h0, h1, h2, h3, h4, h5⟩ := low; have h : p6 = p5 := h; have := LTp6.out; omega))
        replace Q7 := Lib.hid (hus.blk Q7.out (fun h => by obtain ⟨h0, h1, h2, h3, h4, h5⟩ := low; have h : p7 = p5 := h; have := LTp7.out; omega))
        replace H1 := Lib.hid ((H1.out.upd hus (fun c h => .inl (by obtain ⟨h0, h1, h2, h3, h4, h5⟩ := low; have h : c = p5 := h; omega))).more hus.size)
        replace H2 := Lib.hid ((H2.out.upd hus (fun c h => .inl (by obtain ⟨h0, h1, h2, h3, h4, h5⟩ := low; have h : c = p5 := h; omega))).more hus.size)
        replace H3 := Lib.hid ((H3.out.upd hus (fun c h => .inl (by obtain ⟨h0, h1, h2, h3, h4, h5⟩ := low; have h : c = p5 := h; omega))).more hus.size)
        replace H4 := Lib.hid ((H4.out.upd hus (fun c h => .inl (by obtain ⟨h0, h1, h2, h3, h4, h5⟩ := low; have h : c = p5 := h; omega))).more hus.size)
        replace H5 := Lib.hid ((H5.out.upd hus (fun c h => .inl (by obtain ⟨h0, h1, h2, h3, h4, h5⟩ := low; have h : c = p5 := h; omega))).more hus.size)
        replace H6 := Lib.hid ((H6.out.upd hus (fun c h => .inl (by obtain ⟨h0, h1, h2, h3, h4, h5⟩ := low; have h : c = p5 := h; omega))).more hus.size)
        clear hu h1 hlo hus low
        go_wp2_with fail
        rw [← hwd]
        clear hwd y5
        refine (new_ls _).mono ?_
        rintro e w7 ⟨La, rfl, hu⟩
        replace SX := Lib.hid (SX.out.keep hu)
        replace UW := Lib.hid (UW.out.trans hu)
        replace Q6 := Lib.hid (hu.blk Q6.out (fun h => h))
        replace Q7 := Lib.hid (hu.blk Q7.out (fun h => h))
        replace H1 := Lib.hid ((H1.out.upd hu (fun _ h => h.elim)).more hu.size)
        replace H2 := Lib.hid ((H2.out.upd hu (fun _ h => h.elim)).more hu.size)
        replace H3 := Lib.hid ((H3.out.upd hu (fun _ h => h.elim)).more hu.size)
        replace H4 := Lib.hid ((H4.out.upd hu (fun _ h => h.elim)).more hu.size)
        replace H5 := Lib.hid ((H5.out.upd hu (fun _ h => h.elim)).more hu.size)
        replace H6 := Lib.hid ((H6.out.upd hu (fun _ h => h.elim)).more hu.size)
        clear hu
        obtain ⟨w8, hwn⟩ : ∃ W, W = w7.alloc (.cells #[.pointer (some ⟨La, 0, none⟩)] 30) := ⟨_, rfl⟩
        have hun : Upd (fun _ => False) w7 w8 := by rw [hwn]; exact (Upd.refl _ _).alloc _
        have qn : Blk w8 w7.heap.size [.pointer (some ⟨La, 0, none⟩)] 30 := by rw [hwn]; exact Blk.new _ _ _
        have LTp8 := Lib.hid (show p7 < w7.heap.size from Q7.out.lt)
        replace SX := Lib.hid (SX.out.keep hun)
        replace UW := Lib.hid (UW.out.trans hun)
        replace Q6 := Lib.hid (hun.blk Q6.out (fun h => h))
        replace Q7 := Lib.hid (hun.blk Q7.out (fun h => h))
        replace H1 := Lib.hid ((H1.out.upd hun (fun _ h => h.elim)).more hun.size)
        replace H2 := Lib.hid ((H2.out.upd hun (fun _ h => h.elim)).more hun.size)
        replace H3 := Lib.hid ((H3.out.upd hun (fun _ h => h.elim)).more hun.size)
        replace H4 := Lib.hid ((H4.out.upd hun (fun _ h => h.elim)).more hun.size)
        replace H5 := Lib.hid ((H5.out.upd hun (fun _ h => h.elim)).more hun.size)
        replace H6 := Lib.hid ((H6.out.upd hun (fun _ h => h.elim)).more hun.size)
        have q8 := qn.at (o := 0) rfl
        rw [hwn] at q8
        go_wp2_with fail
        rw [← hwn]
        obtain ⟨p8, hp⟩ : ∃ p, w7.heap.size = p := ⟨_, rfl⟩
        rw [hp] at qn LTp8 ⊢
        have Q8 := Lib.hid qn
        clear hp hun qn hwn q8
        refine (new_table _ _).mono ?_
        rintro e w9 ⟨T, A, mp, rfl, hn9⟩
        have hfp := new_fp hn9
        have FP := Lib.hid (show ∀ c, Fp (tnew T A mp) c → w8.heap.size ≤ c from hfp)
        have TB := Lib.hid (show Tab w9 (tnew T A mp) nilw sn0 [] [] from Tab.new hn9)
        have U89 := Lib.hid hn9.upd
        have SX9 := Lib.hid (SX.out.keep U89.out)
        clear hn9 hfp
        have y0 := SX9.out.z0.at (o := 0) rfl
        have y1 := SX9.out.z1.at (o := 0) rfl
        have y2 := SX9.out.z2.at (o := 0) rfl
        have y3 := SX9.out.z3.at (o := 0) rfl
        have y4 := SX9.out.z4.at (o := 0) rfl
        have y5 := SX9.out.z5.at (o := 0) rfl
        have q6 := (U89.out.blk Q6.out (fun h => h)).at (o := 0) rfl
        have q7 := (U89.out.blk Q7.out (fun h => h)).at (o := 0) rfl
        have q8 := (U89.out.blk Q8.out (fun h => h)).at (o := 0) rfl
        go_wp2_with fail
        refine (build_mixed (some ⟨La, 0, none⟩) T A mp a1 a2 a3 a4 a5 a6 nI c1 nV c2 nD c3 nS c4 nW c5 nE c6 ni ns ik iv id sk sv sd w8 _ ni1 ni2 ni3 ns1 ns2 ns3 lnI lnS H1.out.held H2.out.held H3.out.held H4.out.held H5.out.held H6.out.held KO.out U89.out FP.out TB.out).mono ?_
        rintro e w10 ⟨rfl, t, S, ks, ix, hT, hu9, hf9, ht9, hr9, hl9, hk9, ho9⟩
        subst hT
        clear y0 y1 y2 y3 y4 y5 q6 q7 q8 SX9 U89 TB FP
        replace SX := Lib.hid (SX.out.keep hu9)
        replace UW := Lib.hid (UW.out.trans hu9)
        replace Q6 := Lib.hid (hu9.blk Q6.out (fun h => h))
        replace Q7 := Lib.hid (hu9.blk Q7.out (fun h => h))
        replace Q8 := Lib.hid (hu9.blk Q8.out (fun h => h))
        replace H1 := Lib.hid ((H1.out.upd hu9 (fun _ h => h.elim)).more hu9.size)
        replace H2 := Lib.hid ((H2.out.upd hu9 (fun _ h => h.elim)).more hu9.size)
        replace H3 := Lib.hid ((H3.out.upd hu9 (fun _ h => h.elim)).more hu9.size)
        replace H4 := Lib.hid ((H4.out.upd hu9 (fun _ h => h.elim)).more hu9.size)
        replace H5 := Lib.hid ((H5.out.upd hu9 (fun _ h => h.elim)).more hu9.size)
        replace H6 := Lib.hid ((H6.out.upd hu9 (fun _ h => h.elim)).more hu9.size)
        have F10 := Lib.hid hf9
        have T10 := Lib.hid ht9
        have R10 := Lib.hid hr9
        have O10 := Lib.hid ho9
        have GD := Lib.hid (mixed_good hr9 SO.out SP.out)
        have NVQ := Lib.hid (fun q => good_nv (mixed_good hr9 SO.out SP.out q))
        clear hu9 hf9 ht9 hr9 ho9
        have hmk := mk_cloneBool ni (by omega)
        obtain ⟨w11, hwn⟩ : ∃ W, W = (w10.alloc (.cells (tab ni fun _ => Value.bool false).toArray 4)).alloc (.cells #[.slice (some ⟨w10.heap.size, 0, none⟩) ni ni] 59) := ⟨_, rfl⟩
        have hun : Upd (fun _ => False) w10 w11 := by rw [hwn]; exact ((Upd.refl _ _).alloc _).alloc _
        have hb1 : Blk w11 w10.heap.size (tab ni fun _ => Value.bool false) 4 := by rw [hwn]; exact (Blk.new _ _ _).alloc _
        have hb2 : Blk w11 (w10.heap.size + 1) [.slice (some ⟨w10.heap.size, 0, none⟩) ni ni] 59 := by rw [hwn]; exact Blk.new_at (by simp) _ _
        have q6 := Q6.out.at (o := 0) rfl
        go_wp2_with fail
        rw [← hwn]
        clear hmk hwn q6
        obtain ⟨p9, hp9⟩ : ∃ p, w10.heap.size + 1 = p := ⟨_, rfl⟩
        rw [hp9] at hb2 ⊢
        obtain ⟨gl, hgl⟩ : ∃ p, w10.heap.size = p := ⟨_, rfl⟩
        rw [hgl] at hb1 hb2 ⊢
        have L9 := Lib.hid (show gl = w10.heap.size ∧ p9 = gl + 1 by omega)
        have UN := Lib.hid hun
        have BL := Lib.hid hb1
        have BP := Lib.hid hb2
        clear hp9 hgl hun hb1 hb2
        go_loopw [18] (fun iv wr => ∃ i : Nat, i ≤ ni ∧ iv = .int .i64 i ∧ Upd (fun _ => False) w10 wr ∧ Blk wr p9 [.slice (some ⟨gl, 0, none⟩) ni ni] 59 ∧ Blk wr gl (tab ni fun m => .bool (if m < i then isl ieqk ik ni m else false)) 4) (fun iv _ => ni - (intOf iv).toNat)
        case atStart => exact ⟨0, Nat.zero_le _, rfl, UN.out, BP.out, by rw [tab_congr (g := fun _ => Value.bool false) (fun m _ => by simp)]; exact BL.out⟩
        case round =>
          obtain ⟨i, hi, rfl, hu, hbp, hbl⟩ := hrel
          have U := Lib.hid hu
          have CP := Lib.hid hbp
          have CL := Lib.hid hbl
          clear hu hbp hbl
          have SXr := Lib.hid (SX.out.keep U.out)
          have y0 := SXr.out.z0.at (o := 0) rfl
          have q6 := (U.out.blk Q6.out (fun h => h)).at (o := 0) rfl
          have q9 := CP.out.at (o := 0) rfl
          by_cases hlt : i < ni
          · have i1 : (0 : Int) ≤ (i : Int) := by omega
            have i2 : (i : Int) < (ni : Int) := by omega
            have i3 : (i : Int) < (nI : Int) := by omega
            obtain ⟨b, off, hab, hca⟩ := (H1.out.upd U.out (fun _ h => h.elim)).held.one (j := i) (by omega)
            have hg : wr.cell? ⟨gl, i, none⟩ = some (.bool false) := CL.out.at (by rw [tab_in hlt, if_neg (by omega)])
            have hf := CL.out.free i
            have LI := Lib.hid (fun (W : World) (hW : Upd (fun _ => False) wr W) => last_ints a1 nI c1 ni ik (ik i) W ni1 lnI ((H1.out.held.cells.upd U.out).upd hW))
            subst hab
            have low := LOW.out
            have n9 : p9 ≠ gl := by have := L9.out; omega
            have n0 : p0 ≠ gl := by have := L9.out; have := SX.out.z0.lt; omega
            have n6 : p6 ≠ gl := by have := L9.out; have := Q6.out.lt; omega
            have nb : b ≠ gl := by
              have := L9.out
              obtain ⟨b', off', e1, _, e3, _⟩ := H1.out i (by omega)
              cases e1
              omega
            clear low
            go_wp2_with fail
            go_region_held3 (fun w' => w'.cell? ⟨p9, 0, none⟩ = some (.slice (some ⟨gl, 0, none⟩) ni ni) ∧ w'.cell? ⟨p0, 0, none⟩ = some (.slice (some ⟨b, off, none⟩) nI c1) ∧ w'.cell? ⟨p6, 0, none⟩ = some (.int .i64 ni) ∧ w'.cell? ⟨b, off + i, none⟩ = some (.int .i64 (ik i)))
              (first | exact ⟨q9, y0, q6, hca⟩ | exact ⟨cell_other q9 n9 _, cell_other y0 n0 _, cell_other q6 n6 _, cell_other hca nb _⟩)
              ((go_at_call 52; refine (LI.out _ (by first | assumption | exact (Upd.refl _ _).drew)).mono ?_; rintro e W1 ⟨rfl, hW1⟩; subst hW1))
            go_wp2
            go_roundw
            case rel =>
              refine ⟨i + 1, by omega, by go_num, (U.out.setCell _ _ (.inr (by have := L9.out; show w10.heap.size ≤ gl; omega))).drew, (CP.out.set_other _ _ n9).drew, ?_⟩
              have h := CL.out.set i (.bool (isl ieqk ik ni i))
              rw [tab_set] at h
              rw [tab_congr (g := fun m => if m = i then Value.bool (isl ieqk ik ni i) else Value.bool (if m < i then isl ieqk ik ni m else false))]
              · exact h.drew
              · intro m _
                by_cases e : m = i
                · rw [if_pos e, if_pos (by omega), e]
                · rw [if_neg e]
                  by_cases e2 : m < i
                  · rw [if_pos e2, if_pos (by omega)]
                  · rw [if_neg e2, if_neg (by omega)]
            case measure => simp [intOf]; omega
          · obtain rfl : i = ni := by omega
            obtain ⟨ni, hni⟩ : ∃ n, n = i := ⟨_, rfl⟩
            subst hni
            obtain ⟨w12, hw12⟩ : ∃ W : World, W = wr := ⟨_, rfl⟩
            subst hw12
            clear SXr y0 q9 hlt
            have hCL := CL.out
            rw [tab_congr (g := fun m => Value.bool (isl ieqk ik ni m)) (fun m hm => by rw [if_pos hm])] at hCL
            have BL9 := Lib.hid hCL
            have BP9 := CP
            have BS := Lib.hid ((Bs.mk SX.out.z0 SX.out.z1 SX.out.z2 SX.out.z3 SX.out.z4 SX.out.z5 Q6.out Q7.out Q8.out H1.out H2.out H3.out H4.out H5.out H6.out).keep U.out)
            have T12 := Lib.hid (T10.out.upd U.out (fun c _ h => h))
            replace UW := Lib.hid (UW.out.trans U.out)
            clear hCL CP CL BP BL SX Q6 Q7 Q8 H1 H2 H3 H4 H5 H6 T10 U UN L9 LTp6 LTp7 LTp8 LOW
            have hmk := mk_cloneBool ns (by omega)
            obtain ⟨w13, hwn⟩ : ∃ W, W = (w12.alloc (.cells (tab ns fun _ => Value.bool false).toArray 4)).alloc (.cells #[.slice (some ⟨w12.heap.size, 0, none⟩) ns ns] 59) := ⟨_, rfl⟩
            have hun : Upd (fun _ => False) w12 w13 := by rw [hwn]; exact ((Upd.refl _ _).alloc _).alloc _
            have hb1 : Blk w13 w12.heap.size (tab ns fun _ => Value.bool false) 4 := by rw [hwn]; exact (Blk.new _ _ _).alloc _
            have hb2 : Blk w13 (w12.heap.size + 1) [.slice (some ⟨w12.heap.size, 0, none⟩) ns ns] 59 := by rw [hwn]; exact Blk.new_at (by simp) _ _
            have q7 := BS.out.z7.at (o := 0) rfl
            go_wp2_with fail
            rw [← hwn]
            clear hmk hwn q6 q7
            obtain ⟨p10, hp10⟩ : ∃ p, w12.heap.size + 1 = p := ⟨_, rfl⟩
            rw [hp10] at hb2 ⊢
            obtain ⟨gm, hgm⟩ : ∃ p, w12.heap.size = p := ⟨_, rfl⟩
            rw [hgm] at hb1 hb2 ⊢
            have L10 := Lib.hid (show gm = w12.heap.size ∧ p10 = gm + 1 by omega)
            have UN := Lib.hid hun
            have BL := Lib.hid hb1
            have BP := Lib.hid hb2
            clear hp10 hgm hun hb1 hb2
            go_loopw [20] (fun iv wr => ∃ i : Nat, i ≤ ns ∧ iv = .int .i64 i ∧ Upd (fun _ => False) w12 wr ∧ Blk wr p10 [.slice (some ⟨gm, 0, none⟩) ns ns] 59 ∧ Blk wr gm (tab ns fun m => .bool (if m < i then isl seqk sk ns m else false)) 4) (fun iv _ => ns - (intOf iv).toNat)
            case atStart => exact ⟨0, Nat.zero_le _, rfl, UN.out, BP.out, by rw [tab_congr (g := fun _ => Value.bool false) (fun m _ => by simp)]; exact BL.out⟩
            case round =>
              obtain ⟨i, hi, rfl, hu, hbp, hbl⟩ := hrel
              have U := Lib.hid hu
              have CP := Lib.hid hbp
              have CL := Lib.hid hbl
              clear hu hbp hbl
              have BSr := Lib.hid (BS.out.keep U.out)
              have y3 := BSr.out.z3.at (o := 0) rfl
              have q7 := BSr.out.z7.at (o := 0) rfl
              have q10 := CP.out.at (o := 0) rfl
              by_cases hlt : i < ns
              · as_aux_lemma =>
                  have i1 : (0 : Int) ≤ (i : Int) := by omega
                  have i2 : (i : Int) < (ns : Int) := by omega
                  have i3 : (i : Int) < (nS : Int) := by omega
                  obtain ⟨b, off, hab, hca⟩ := BSr.out.h4.held.one (j := i) (by omega)
                  have hg : wr.cell? ⟨gm, i, none⟩ = some (.bool false) := CL.out.at (by rw [tab_in hlt, if_neg (by omega)])
                  have hf := CL.out.free i
                  have LI := Lib.hid (fun (W : World) (hW : Upd (fun _ => False) wr W) => last_str a4 nS c4 ns sk (sk i) W ns1 lnS (BSr.out.h4.held.cells.upd hW))
                  subst hab
                  have n10 : p10 ≠ gm := by have := L10.out; omega
                  have n3 : p3 ≠ gm := by have := L10.out; have := BS.out.z3.lt; omega
                  have n7 : p7 ≠ gm := by have := L10.out; have := BS.out.z7.lt; omega
                  have nb : b ≠ gm := by
                    have := L10.out
                    obtain ⟨b', off', e1, _, e3, _⟩ := BS.out.h4 i (by omega)
                    cases e1
                    omega
                  go_wp2_with fail
                  go_region_held3 (fun w' => w'.cell? ⟨p10, 0, none⟩ = some (.slice (some ⟨gm, 0, none⟩) ns ns) ∧ w'.cell? ⟨p3, 0, none⟩ = some (.slice (some ⟨b, off, none⟩) nS c4) ∧ w'.cell? ⟨p7, 0, none⟩ = some (.int .i64 ns) ∧ w'.cell? ⟨b, off + i, none⟩ = some (.string (sk i)))
                    (first | exact ⟨q10, y3, q7, hca⟩ | exact ⟨cell_other q10 n10 _, cell_other y3 n3 _, cell_other q7 n7 _, cell_other hca nb _⟩)
                    ((go_at_call 33; refine (LI.out _ (by first | assumption | exact (Upd.refl _ _).drew)).mono ?_; rintro e W1 ⟨rfl, hW1⟩; subst hW1))
                  go_wp2
                  go_roundw
                  case rel =>
                    refine ⟨i + 1, by omega, by go_num, (U.out.setCell _ _ (.inr (by have := L10.out; show w12.heap.size ≤ gm; omega))).drew, (CP.out.set_other _ _ n10).drew, ?_⟩
                    have h := CL.out.set i (.bool (isl seqk sk ns i))
                    rw [tab_set] at h
                    rw [tab_congr (g := fun m => if m = i then Value.bool (isl seqk sk ns i) else Value.bool (if m < i then isl seqk sk ns m else false))]
                    · exact h.drew
                    · intro m _
                      by_cases e : m = i
                      · rw [if_pos e, if_pos (by omega), e]
                      · rw [if_neg e]
                        by_cases e2 : m < i
                        · rw [if_pos e2, if_pos (by omega)]
                        · rw [if_neg e2, if_neg (by omega)]
                  case measure => simp [intOf]; omega
              · obtain rfl : i = ns := by omega
                obtain ⟨ns, hns⟩ : ∃ n, n = i := ⟨_, rfl⟩
                subst hns
                obtain ⟨w14, hw14⟩ : ∃ W : World, W = wr := ⟨_, rfl⟩
                subst hw14
                clear BSr y3 q10 hlt
                have hCL := CL.out
                rw [tab_congr (g := fun m => Value.bool (isl seqk sk ns m)) (fun m hm => by rw [if_pos hm])] at hCL
                have BL10 := Lib.hid hCL
                have BP10 := CP
                replace BS := Lib.hid (BS.out.keep U.out)
                replace BP9 := Lib.hid (U.out.blk BP9.out (fun h => h))
                replace BL9 := Lib.hid (U.out.blk BL9.out (fun h => h))
                have T14 := Lib.hid (T12.out.upd U.out (fun c _ h => h))
                replace UW := Lib.hid (UW.out.trans U.out)
                clear hCL CP CL BP BL T12 U UN L10
                have hmk1 := mk_cloneInt ni (by omega)
                have hmk2 := mk_cloneInt ns (by omega)
                have hmf : ∀ (fn : Fn) (first cap : Array Value) (w : World), (Instr.makeFunc fn first cap).run Tryz.prog w = .ok (.func fn first cap) w := fun _ _ _ _ => rfl
                obtain ⟨w15, hwn⟩ : ∃ W, W = ((((w14.alloc (.cells (tab ni fun _ => Value.int .i64 0).toArray 3)).alloc (.cells #[.slice (some ⟨w14.heap.size, 0, none⟩) ni ni] 93)).alloc (.cells (tab ns fun _ => Value.int .i64 0).toArray 3)).alloc (.cells #[.slice (some ⟨w14.heap.size + 1 + 1, 0, none⟩) ns ns] 93)).alloc (.cells #[.bool false] 4) := ⟨_, rfl⟩
                obtain ⟨UN, VS⟩ := vs_start (li := isl ieqk ik ni) (ls := isl seqk sk ns) BS.out BP9.out BL9.out BP10.out BL10.out ⟨ni1, ni2, ni3, ns1, ns2, ns3⟩ ⟨by omega, by omega⟩ hwn
                have T15 := Lib.hid (T14.out.upd UN (fun c _ h => h))
                have q6 := BS.out.z6.at (o := 0) rfl
                have q7b := ((((Upd.refl (fun _ => False) w14).alloc (.cells (tab ni fun _ => Value.int .i64 0).toArray 3)).alloc (.cells #[.slice (some ⟨w14.heap.size, 0, none⟩) ni ni] 93)).blk BS.out.z7 (fun h => h)).at (o := 0) rfl
                have q8 := VS.v2.at (o := 0) rfl
                rw [hwn] at q8
                go_wp2_with fail
                rw [← hwn]
                clear hwn q6 q7 q7b q8 hmk1 hmk2 hmf
                obtain ⟨p13, e13⟩ : ∃ x, w14.heap.size + 1 + 1 + 1 + 1 = x := ⟨_, rfl⟩
                rw [e13] at VS ⊢
                obtain ⟨p12, e12⟩ : ∃ x, w14.heap.size + 1 + 1 + 1 = x := ⟨_, rfl⟩
                rw [e12] at VS ⊢
                obtain ⟨gc, e10⟩ : ∃ x, w14.heap.size + 1 + 1 = x := ⟨_, rfl⟩
                rw [e10] at VS
                try rw [e10]
                obtain ⟨p11, e11⟩ : ∃ x, w14.heap.size + 1 = x := ⟨_, rfl⟩
                rw [e11] at VS ⊢
                obtain ⟨gi, e9⟩ : ∃ x, w14.heap.size = x := ⟨_, rfl⟩
                rw [e9] at VS
                try rw [e9]
                have LQ := Lib.hid (show gi = w14.heap.size ∧ gc = gi + 2 ∧ w15.heap.size ≥ w14.heap.size from ⟨by omega, by omega, UN.size⟩)
                have NF := Lib.hid (show ¬ Fp t gi ∧ ¬ Fp t gc from ⟨fun h => by have := T14.out.lt h; omega, fun h => by have := T14.out.lt h; omega⟩)
                clear e9 e10 e11 e12 e13 BP9 BL9 BP10 BL10 T14 BS
                have LP := Lib.hid (pairs_lists hl9 T15.out.fs T15.out.fn O10.out.clean)
                have PLE := Lib.hid (pairs_leV hl9 T15.out.fs T15.out.fn O10.out)
                have NK := Lib.hid (fun e he => (T15.out.fn.keys e he).1)
                have CF := Lib.hid (l_for_each_14 (some ⟨La, 0, none⟩) (.pointer (some ⟨p6, 0, none⟩)) (.pointer (some ⟨p9, 0, none⟩)) (.pointer (some ⟨p8, 0, none⟩)) (.pointer (some ⟨p0, 0, none⟩)) (.pointer (some ⟨p2, 0, none⟩)) (.pointer (some ⟨p1, 0, none⟩)) (.pointer (some ⟨p13, 0, none⟩)) (.pointer (some ⟨p11, 0, none⟩)) (.pointer (some ⟨p7, 0, none⟩)) (.pointer (some ⟨p10, 0, none⟩)) (.pointer (some ⟨p3, 0, none⟩)) (.pointer (some ⟨p5, 0, none⟩)) (.pointer (some ⟨p4, 0, none⟩)) (.pointer (some ⟨p12, 0, none⟩)) t.T w15 _ (for_each_14 (.pointer (some ⟨p6, 0, none⟩)) (.pointer (some ⟨p9, 0, none⟩)) (.pointer (some ⟨p8, 0, none⟩)) (.pointer (some ⟨p0, 0, none⟩)) (.pointer (some ⟨p2, 0, none⟩)) (.pointer (some ⟨p1, 0, none⟩)) (.pointer (some ⟨p13, 0, none⟩)) (.pointer (some ⟨p11, 0, none⟩)) (.pointer (some ⟨p7, 0, none⟩)) (.pointer (some ⟨p10, 0, none⟩)) (.pointer (some ⟨p3, 0, none⟩)) (.pointer (some ⟨p5, 0, none⟩)) (.pointer (some ⟨p4, 0, none⟩)) (.pointer (some ⟨p12, 0, none⟩)) t nilw S ks ix w15 T15.out hl9 (arr_nv hl9 NVQ.out) (str_nv T15.out.fs NVQ.out) (num_nv T15.out.fn O10.out.clean NVQ.out) (InvV w14 gi p6 p9 p8 p0 p2 p1 p13 p11 p7 p10 p3 p5 p4 p12 ni ns La gi gc nI c1 nV c2 nD c3 nS c4 nW c5 nE c6 ni ns a1 a2 a3 a4 a5 a6 (some ⟨gl, 0, none⟩) (some ⟨gm, 0, none⟩) ik iv id sk sv sd (isl ieqk ik ni) (isl seqk sk ns))
                  (fun vis p w hp hlen hinv => by
                    obtain ⟨q, b, e1, e2, e3⟩ := pair_at LP.out GD.out hp
                    exact fev_cb hinv R10.out KO.out rfl rfl e1 e2 e3 (by have := PLE.out; omega) NF.out ⟨by have := LQ.out; omega, by have := LQ.out; omega⟩)
                  (fun vis w w' h hu => h.keep (by have := LQ.out; omega) (by have := LQ.out; omega) hu)
                  ⟨VS.as (fun i _ => cnt_nil _ _ i) (fun i _ => cnt_nil _ _ i), UN⟩))
                clear VS UN
                refine CF.out.mono ?_
                rintro e w16 ⟨rfl, vis, hperm, hinv, hu16⟩
                clear CF hu16
                obtain ⟨hvs, hub⟩ := hinv
                have VE := Lib.hid hvs
                have LV := LP.out.perm hperm
                have CE1 := Lib.hid (fun (i : Nat) (hi : i < ni) => cnt_end (l := isl ieqk ik ni) (key := fun i => ikey (ik i)) (val := iv) (del := id) (i := i) LV NK.out (ikey_self _) (fun hl => want_int R10.out KO.out hi hl))
                have CE2 := Lib.hid (fun (i : Nat) (hi : i < ns) => cnt_end (l := isl seqk sk ns) (key := fun j => .str (sk j)) (val := sv) (del := sd) (i := i) LV NK.out ((ba_beq _ _).2 rfl) (fun hl => want_str R10.out hi hl))
                replace UW := Lib.hid (UW.out.trans hub)
                have x6 := hvs.v6.at (o := 0) rfl
                clear hvs hub LV hperm LP PLE NF LQ T15 O10 R10 GD NVQ NK KO SO SP
                go_wp2_with fail
                clear x6
                go_loopw [24] (fun iv wr => ∃ i : Nat, i ≤ ni ∧ iv = .int .i64 i ∧ Upd (fun _ => False) w16 wr) (fun iv _ => ni - (intOf iv).toNat)
                case atStart => exact ⟨0, Nat.zero_le _, rfl, Upd.refl _ _⟩
                case round =>
                  obtain ⟨i, hi, rfl, hu⟩ := hrel
                  have U := Lib.hid hu
                  have V := Lib.hid (VE.out.same hu)
                  clear hu
                  have x0 := V.out.v0.at (o := 0) rfl
                  have x1 := V.out.v1.at (o := 0) rfl
                  have x4 := V.out.v4.at (o := 0) rfl
                  have x7 := V.out.v7.at (o := 0) rfl
                  by_cases hlt : i < ni
                  · as_aux_lemma =>
                      have i1 : (0 : Int) ≤ (i : Int) := by omega
                      have i2 : (i : Int) < (ni : Int) := by omega
                      have i3 : (i : Int) < (nD : Int) := by omega
                      obtain ⟨bl, ol, hal, hcl⟩ := V.out.hL.cells.one (j := i) hlt
                      cases hal
                      rw [Nat.zero_add] at hcl
                      obtain ⟨bd, od, had, hcd⟩ := V.out.h3.cells.one (j := i) hlt
                      subst had
                      have hck := V.out.ki.at (o := i) (tab_in hlt)
                      rw [CE1.out i hlt] at hck
                      cases hl : isl ieqk ik ni i with
                      | false =>
                        rw [hl] at hcl hck
                        have hck2 : wr.cell? ⟨gi, i, none⟩ = some (.int .i64 0) := hck
                        clear hl hck hcd
                        go_wp2
                        go_roundw
                        case rel => exact ⟨i + 1, by omega, by go_num, U.out⟩
                        case measure => simp [intOf]; omega
                      | true =>
                        cases hd : id i with
                        | false =>
                          rw [hd] at hcd
                          rw [hl, hd] at hck
                          rw [hl] at hcl
                          have hck2 : wr.cell? ⟨gi, i, none⟩ = some (.int .i64 1) := hck
                          clear hl hd hck
                          go_wp2
                          go_roundw
                          case rel => exact ⟨i + 1, by omega, by go_num, U.out⟩
                          case measure => simp [intOf]; omega
                        | true =>
                          rw [hd] at hcd
                          rw [hl, hd] at hck
                          rw [hl] at hcl
                          have hck2 : wr.cell? ⟨gi, i, none⟩ = some (.int .i64 0) := hck
                          clear hl hd hck
                          go_wp2
                          go_roundw
                          case rel => exact ⟨i + 1, by omega, by go_num, U.out⟩
                          case measure => simp [intOf]; omega

                  · obtain rfl : i = ni := by omega
                    obtain ⟨ni, hni⟩ : ∃ n, n = i := ⟨_, rfl⟩
                    subst hni
                    clear hlt
                    go_wp2_with fail
                    go_loopw [26] (fun iv wr => ∃ i : Nat, i ≤ ns ∧ iv = .int .i64 i ∧ Upd (fun _ => False) w16 wr) (fun iv _ => ns - (intOf iv).toNat)
                    case atStart => exact ⟨0, Nat.zero_le _, rfl, U.out⟩
                    case round =>
                      obtain ⟨i, hi, rfl, hu⟩ := hrel
                      clear U V x0 x1 x4 x7
                      have U := Lib.hid hu
                      have V := Lib.hid (VE.out.same hu)
                      clear hu
                      have x8 := V.out.v8.at (o := 0) rfl
                      have x9 := V.out.v9.at (o := 0) rfl
                      have x11 := V.out.v11.at (o := 0) rfl
                      have x13 := V.out.v13.at (o := 0) rfl
                      by_cases hlt : i < ns
                      · as_aux_lemma =>
                          have i1 : (0 : Int) ≤ (i : Int) := by omega
                          have i2 : (i : Int) < (ns : Int) := by omega
                          have i3 : (i : Int) < (nE : Int) := by omega
                          obtain ⟨bl, ol, hal, hcl⟩ := V.out.hM.cells.one (j := i) hlt
                          cases hal
                          rw [Nat.zero_add] at hcl
                          obtain ⟨bd, od, had, hcd⟩ := V.out.h6.cells.one (j := i) hlt
                          subst had
                          have hck := V.out.kc.at (o := i) (tab_in hlt)
                          rw [CE2.out i hlt] at hck
                          cases hl : isl seqk sk ns i with
                          | false =>
                            rw [hl] at hcl hck
                            have hck2 : wr.cell? ⟨gc, i, none⟩ = some (.int .i64 0) := hck
                            clear hl hck hcd
                            go_wp2
                            go_roundw
                            case rel => exact ⟨i + 1, by omega, by go_num, U.out⟩
                            case measure => simp [intOf]; omega
                          | true =>
                            cases hd : sd i with
                            | false =>
                              rw [hd] at hcd
                              rw [hl, hd] at hck
                              rw [hl] at hcl
                              have hck2 : wr.cell? ⟨gc, i, none⟩ = some (.int .i64 1) := hck
                              clear hl hd hck
                              go_wp2
                              go_roundw
                              case rel => exact ⟨i + 1, by omega, by go_num, U.out⟩
                              case measure => simp [intOf]; omega
                            | true =>
                              rw [hd] at hcd
                              rw [hl, hd] at hck
                              rw [hl] at hcl
                              have hck2 : wr.cell? ⟨gc, i, none⟩ = some (.int .i64 0) := hck
                              clear hl hd hck
                              go_wp2
                              go_roundw
                              case rel => exact ⟨i + 1, by omega, by go_num, U.out⟩
                              case measure => simp [intOf]; omega

                      · obtain rfl : i = ns := by omega
                        go_wp2
                        go_ret
                        exact ⟨rfl, (UW.out.trans U.out).below (Nat.le_refl _) (fun _ h => h.elim)⟩

end Go.Proofs.YtlmadbgpllokfaaGreatFmt
