/- FnSetTableAgreesWithSetField: walked. -/
import Derived.Test.YtlmadbgpllokfaaGreatFmtAga
namespace Go.Proofs.YtlmadbgpllokfaaGreatFmt
open Go.RowKit Go.Mapy Go.Tbl
set_option maxRecDepth 100000
theorem vvn_nvs {val : Nat → Nat} {del : Nat → Bool} {n m : Nat} (h : Stored val del n) (hm : m < n) : NVS (vv val del m) := by
  unfold vv
  cases hd : del m
  · exact .inr ⟨_, rfl, h m hm hd⟩
  · exact .inl rfl

set_option maxHeartbeats 25600000 in
theorem agl_in (aP : Option Addr) (nP cP : Nat) (pre : Nat → ByteArray) (aK : Option Addr) (nK cK : Nat) (key : Nat → ByteArray) (aV : Option Addr) (nV cV : Nat) (val : Nat → Nat) (aD : Option Addr) (nD cD : Nat) (del : Nat → Bool) (aQ : Option Addr) (nQ cQ : Nat) (pr : Nat → ByteArray) (w : World) (lnP : nP ≤ 4096) (lnK : nK ≤ 4096) (lnV : nV ≤ 4096) (lnD : nD ≤ 4096) (lnQ : nQ ≤ 4096) (hnP : Cells w aP nP fun j => .string (pre j)) (hnK : Cells w aK nK fun j => .string (key j)) (hnV : Cells w aV nV fun j => .float .f64 (val j)) (hnD : Cells w aD nD fun j => .bool (del j)) (hnQ : Cells w aQ nQ fun j => .string (pr j)) :
    Calls Tryz.prog 8 #[.slice aP nP cP, .slice aK nK cK, .slice aV nV cV, .slice aD nD cD, .slice aQ nQ cQ] w (Good w) := by
  have HP := Lib.hid hnP
  have HK := Lib.hid hnK
  have HV := Lib.hid hnV
  have HD := Lib.hid hnD
  have HQ := Lib.hid hnQ
  clear hnP hnK hnV hnD hnQ
  go_enter Tryz.func8, Tryz.ntmps8
  go_wp2_with fail
  refine (guard_agl aP nP cP aK nK cK aV nV cV aD nD cD aQ nQ cQ pre key pr _ (by omega) (by omega) (by omega) (by omega) (by omega) HP.out HK.out HQ.out).mono ?_
  rintro e w' ⟨b, rfl, rfl⟩
  cases b with
  | false =>
    go_wp2
    go_ret
    exact ⟨rfl, Below.refl _ _⟩
  | true =>
    go_wp2_with fail
    refine (str_bytes aP nP cP pre _ lnP HP.out).mono ?_
    rintro e w' ⟨z1, hz1, rfl, rfl⟩
    go_wp2_with fail
    refine (str_bytes aK nK cK key _ lnK HK.out).mono ?_
    rintro e w' ⟨z2, hz2, rfl, rfl⟩
    go_wp2_with fail
    refine (str_bytes aQ nQ cQ pr _ lnQ HQ.out).mono ?_
    rintro e w' ⟨z3, hz3, rfl, rfl⟩
    by_cases hbig : z1 + z2 + 8 * nV + nD + z3 ≤ 1048576
    case neg =>
      go_wp2
      go_ret
      exact ⟨rfl, Below.refl _ _⟩
    go_wp2_with fail
    refine (min_three nK nV nD _).mono ?_
    rintro e w' ⟨rfl, rfl⟩
    obtain ⟨n, hn⟩ : ∃ n, n = min nK (min nV nD) := ⟨_, rfl⟩
    have nk : n ≤ nK := by omega
    have nv : n ≤ nV := by omega
    have nd : n ≤ nD := by omega
    rw [← hn]
    clear hn
    go_wp2_with fail
    refine (stored_ok aV aD nV cV nD cD n val del _ nv nd lnV HV.out HD.out).mono ?_
    rintro e w1 ⟨b, rfl, hu1, hb1⟩
    have U1 := Lib.hid hu1
    have B1 := Lib.hid hb1
    clear hu1 hb1
    cases b with
    | false =>
      go_wp2
      go_ret
      exact ⟨rfl, U1.out.below (Nat.le_refl _) (fun _ h => h.elim)⟩
    | true =>
      have SO := Lib.hid (B1.out rfl)
      clear B1 hbig
      go_wp2_with fail
      refine (cloneStr aP nP cP pre _ (by omega) (HP.out.upd U1.out)).mono ?_
      rintro e wc1 ⟨a1, c1, rfl, hu, h1⟩
      have UC1 := Lib.hid (U1.out.trans hu)
      have H1 := Lib.hid (Held.of_new h1)
      clear hu h1 U1
      go_wp2_with fail
      refine (cloneStr aK nK cK key _ (by omega) (HK.out.upd UC1.out)).mono ?_
      rintro e wc2 ⟨a2, c2, rfl, hu, h1⟩
      have UC2 := Lib.hid (UC1.out.trans hu)
      have H1 := Lib.hid ((H1.out.upd hu (fun c h => h.elim)).mono hu.size)
      have H2 := Lib.hid (Held.of_new h1)
      clear hu h1 UC1
      go_wp2_with fail
      refine (cloneFlo aV nV cV val _ (by omega) (HV.out.upd UC2.out)).mono ?_
      rintro e wc3 ⟨a3, c3, rfl, hu, h1⟩
      have UC3 := Lib.hid (UC2.out.trans hu)
      have H1 := Lib.hid ((H1.out.upd hu (fun c h => h.elim)).mono hu.size)
      have H2 := Lib.hid ((H2.out.upd hu (fun c h => h.elim)).mono hu.size)
      have H3 := Lib.hid (Held.of_new h1)
      clear hu h1 UC2
      go_wp2_with fail
      refine (cloneBool aD nD cD del _ (by omega) (HD.out.upd UC3.out)).mono ?_
      rintro e wc4 ⟨a4, c4, rfl, hu, h1⟩
      have UC4 := Lib.hid (UC3.out.trans hu)
      have H1 := Lib.hid ((H1.out.upd hu (fun c h => h.elim)).mono hu.size)
      have H2 := Lib.hid ((H2.out.upd hu (fun c h => h.elim)).mono hu.size)
      have H3 := Lib.hid ((H3.out.upd hu (fun c h => h.elim)).mono hu.size)
      have H4 := Lib.hid (Held.of_new h1)
      clear hu h1 UC3
      go_wp2_with fail
      refine (cloneStr aQ nQ cQ pr _ (by omega) (HQ.out.upd UC4.out)).mono ?_
      rintro e wc5 ⟨a5, c5, rfl, hu, h1⟩
      have UC5 := Lib.hid (UC4.out.trans hu)
      have H1 := Lib.hid ((H1.out.upd hu (fun c h => h.elim)).mono hu.size)
      have H2 := Lib.hid ((H2.out.upd hu (fun c h => h.elim)).mono hu.size)
      have H3 := Lib.hid ((H3.out.upd hu (fun c h => h.elim)).mono hu.size)
      have H4 := Lib.hid ((H4.out.upd hu (fun c h => h.elim)).mono hu.size)
      have H5 := Lib.hid (Held.of_new h1)
      clear hu h1 UC4
      clear HP HK HV HD HQ
      go_wp2_with fail
      refine (new_ls _).mono ?_
      rintro e w7 ⟨La, rfl, hu7⟩
      have U7 := Lib.hid hu7
      clear hu7
      go_wp2_with fail
      refine (new_table _ _).mono ?_
      rintro e wa1 ⟨T1, A1, a1m, rfl, hn1⟩
      have N1 := Lib.hid hn1
      clear hn1
      go_wp2_with fail
      refine (new_table _ _).mono ?_
      rintro e wb1 ⟨P1, B1, b1m, rfl, hn2⟩
      have N2 := Lib.hid hn2
      clear hn2
      go_wp2_with fail
      refine (new_table _ _).mono ?_
      rintro e wd1 ⟨Q1, D1, d1m, rfl, hn3⟩
      have N3 := Lib.hid hn3
      clear hn3
      go_wp2_with fail
      refine (set_string (tnew Q1 D1 d1m) nilw sn0 [] [] nxs (tabv P1) false _ (tab_val P1) (by simp) (Tab.new N3.out)).mono ?_
      rintro e w11 hs
      obtain rfl : e = .returned (.tuple #[]) := hs.1
      have hk := SetStr.key hs (tab_val P1)
      obtain ⟨tm1, M1, kl1, im1, g1, g2, g3, g4⟩ := trio_new N1.out N2.out N3.out hk
      have b2 : Blk w11 T1 (tbl nilw (tnew T1 A1 a1m)) 89 := by
        obtain ⟨_, tm', _, _, _, _, q2, _⟩ := hk
        have l1 : T1 < wa1.heap.size := (Tab.new N1.out).lt (.inl rfl)
        have b1 := (N3.out.upd.blk (N2.out.upd.blk N1.out.tb (fun h => h)) (fun h => h))
        exact q2.blk b1 (fun h => by
          have := new_fp N3.out _ h
          have := N2.out.upd.size
          omega)
      have c0 := b2.at (o := 0) (v := nilw) rfl
      have f0 := b2.free 0
      have TR1 := Lib.hid g2
      have FP1 := Lib.hid g3
      have UU1 := Lib.hid g4
      have MT1 := Lib.hid g1
      clear hs hk g1 g2 g3 g4 N1 N2 N3 b2
      unfold nilw at c0
      go_wp2_with fail
      obtain ⟨wz1, hwz⟩ : ∃ wz, wz = w11.setCell ⟨T1, 0, none⟩ (tabv Q1) := ⟨_, rfl⟩
      rw [← hwz] at TR1 UU1
      rw [show w11.setCell ⟨T1, 0, none⟩ (.iface 32 (.pointer (some ⟨Q1, 0, none⟩))) = wz1 from hwz.symm]
      have FP1 := Lib.hid (fun c h => Nat.le_trans U7.out.size (FP1.out c h))
      have UZ1 := Lib.hid (U7.out.trans UU1.out)
      clear hwz c0 f0 UU1 U7
      go_wp2_with fail
      refine (new_table _ _).mono ?_
      rintro e wa2 ⟨T2, A2, a2m, rfl, hn1⟩
      have N1 := Lib.hid hn1
      clear hn1
      go_wp2_with fail
      refine (new_table _ _).mono ?_
      rintro e wb2 ⟨P2, B2, b2m, rfl, hn2⟩
      have N2 := Lib.hid hn2
      clear hn2
      go_wp2_with fail
      refine (new_table _ _).mono ?_
      rintro e wd2 ⟨Q2, D2, d2m, rfl, hn3⟩
      have N3 := Lib.hid hn3
      clear hn3
      go_wp2_with fail
      refine (set_string (tnew Q2 D2 d2m) nilw sn0 [] [] nxs (tabv P2) false _ (tab_val P2) (by simp) (Tab.new N3.out)).mono ?_
      rintro e w11 hs
      obtain rfl : e = .returned (.tuple #[]) := hs.1
      have hk := SetStr.key hs (tab_val P2)
      obtain ⟨tm2, M2, kl2, im2, g1, g2, g3, g4⟩ := trio_new N1.out N2.out N3.out hk
      have b2 : Blk w11 T2 (tbl nilw (tnew T2 A2 a2m)) 89 := by
        obtain ⟨_, tm', _, _, _, _, q2, _⟩ := hk
        have l1 : T2 < wa2.heap.size := (Tab.new N1.out).lt (.inl rfl)
        have b1 := (N3.out.upd.blk (N2.out.upd.blk N1.out.tb (fun h => h)) (fun h => h))
        exact q2.blk b1 (fun h => by
          have := new_fp N3.out _ h
          have := N2.out.upd.size
          omega)
      have c0 := b2.at (o := 0) (v := nilw) rfl
      have f0 := b2.free 0
      have TR2 := Lib.hid g2
      have FP2 := Lib.hid g3
      have UU2 := Lib.hid g4
      have MT2 := Lib.hid g1
      clear hs hk g1 g2 g3 g4 N1 N2 N3 b2
      unfold nilw at c0
      go_wp2_with fail
      obtain ⟨wz2, hwz⟩ : ∃ wz, wz = w11.setCell ⟨T2, 0, none⟩ (tabv Q2) := ⟨_, rfl⟩
      rw [← hwz] at TR2 UU2
      rw [show w11.setCell ⟨T2, 0, none⟩ (.iface 32 (.pointer (some ⟨Q2, 0, none⟩))) = wz2 from hwz.symm]
      have PS := Lib.hid (show Pair2 wc5 wz2 T1 P1 T2 P2 tm1 tm2 M1 M2 kl1 kl2 im1 im2 0 0 from pair_start TR1.out FP1.out UZ1.out TR2.out FP2.out UU2.out)
      clear hwz c0 f0 UU2 UZ1 FP1 FP2 TR1 TR2
      go_loopw [19] (fun iv wr => ∃ (j : Nat), j ≤ nP ∧ iv = .int .i64 j ∧ Pair2 wc5 wr T1 P1 T2 P2 tm1 tm2 M1 M2 kl1 kl2 im1 im2 j 0) (fun iv _ => nP - (intOf iv).toNat)
      case atStart => exact ⟨0, Nat.zero_le _, rfl, PS.out⟩
      case round =>
        obtain ⟨j, hj, rfl, hp9⟩ := hrel
        have P9 := Lib.hid hp9
        have U9 := Lib.hid (show Upd (fun _ => False) wc5 wr by obtain ⟨_, _, _, _, _, _, _, _, _, _, _, _, _, _, _, _, _, _, _, _, h, _⟩ := hp9.ex; exact h)
        clear hp9 PS
        by_cases hlt : j < nP
        · obtain ⟨b1, off1, rfl, hc1⟩ := (H1.out.upd U9.out (fun c h => h.elim)).one (j := j) (by omega)
          have h1' := H1.out
          have i1 : (0 : Int) ≤ (j : Int) := by omega
          have i2 : (j : Int) < (nP : Int) := by omega
          have CC := Lib.hid (pair_raw1 P9.out (pre j) (numv 13830554455654793216) false (.inr ⟨rfl, _, _, rfl, by decide, rfl⟩) (by omega))
          clear P9
          unfold numv at CC
          go_wp2_with fail
          refine CC.out.mono ?_
          rintro e w2 ⟨rfl, hm⟩
          have MM := Lib.hid hm
          have U2 := Lib.hid (show Upd (fun _ => False) wc5 w2 by obtain ⟨_, _, _, _, _, _, _, _, _, _, _, _, _, _, _, _, _, _, _, _, h, _⟩ := hm.ex; exact h)
          clear hm CC h1'
          obtain ⟨e1, o1, he1, hd1⟩ := (H1.out.upd U2.out (fun c h => h.elim)).one (j := j) (by omega)
          cases he1
          have CC := Lib.hid (pair_raw2 MM.out false (.inr ⟨rfl, _, _, rfl, by decide, rfl⟩) (.inr ⟨_, rfl, by unfold SelfB; decide +kernel⟩) (by omega))
          clear MM
          go_wp2_with fail
          refine CC.out.mono ?_
          rintro e w3 ⟨rfl, hp⟩
          have PP := Lib.hid hp
          clear hp CC
          go_wp2
          go_roundw
          case rel => exact ⟨j + 1, by omega, by go_num, PP.out⟩
          case measure => simp [intOf]; omega
        · obtain rfl : j = nP := by omega
          obtain ⟨nP, hnn⟩ : ∃ nP, nP = j := ⟨_, rfl⟩
          subst hnn
          clear hlt
          go_wp2_with fail
          go_loopw [20] (fun iv wr => ∃ (j : Nat), j ≤ n ∧ iv = .int .i64 j ∧ Pair2 wc5 wr T1 P1 T2 P2 tm1 tm2 M1 M2 kl1 kl2 im1 im2 (nP + j) j) (fun iv _ => n - (intOf iv).toNat)
          case atStart => exact ⟨0, Nat.zero_le _, rfl, P9.out⟩
          case round =>
            obtain ⟨j, hj, rfl, hp10⟩ := hrel
            have P10 := Lib.hid hp10
            have U10 := Lib.hid (show Upd (fun _ => False) wc5 wr by obtain ⟨_, _, _, _, _, _, _, _, _, _, _, _, _, _, _, _, _, _, _, _, h, _⟩ := hp10.ex; exact h)
            clear hp10 P9 U9
            by_cases hlt : j < n
            · obtain ⟨b2, off2, rfl, hc2⟩ := (H2.out.upd U10.out (fun c h => h.elim)).one (j := j) (by omega)
              obtain ⟨b4, off4, rfl, hc4⟩ := (H4.out.upd U10.out (fun c h => h.elim)).one (j := j) (by omega)
              have i1 : (0 : Int) ≤ (j : Int) := by omega
              have i2 : (j : Int) < (nK : Int) := by omega
              have i3 : (j : Int) < (nV : Int) := by omega
              have i4 : (j : Int) < (nD : Int) := by omega
              have VN := Lib.hid (vvn_nvs SO.out hlt)
              have C1 := Lib.hid (show ∀ wx : World, Upd (fun _ => False) wr wx → Calls Tryz.prog 32 #[.pointer (some ⟨La, 0, none⟩), .iface 32 (.pointer (some ⟨T1, 0, none⟩)), .string (key j), vv val del j] wx (fun e w' => e = .returned (.tuple #[]) ∧ Mid2 wc5 w' T1 P1 T2 P2 tm1 tm2 M1 M2 kl1 kl2 im1 im2 (nP + j) j (key j) (vv val del j)) from fun wx hux =>
                pair_set1 (some ⟨La, 0, none⟩) (P10.out.upd hux) (key j) (vv val del j) (del j) (vv_val val del j) (by omega) (by omega))
              have C2 := Lib.hid (show ∀ wx : World, Mid2 wc5 wx T1 P1 T2 P2 tm1 tm2 M1 M2 kl1 kl2 im1 im2 (nP + j) j (key j) (vv val del j) → Calls Tryz.prog 39 #[.pointer (some ⟨La, 0, none⟩), .iface 32 (.pointer (some ⟨T2, 0, none⟩)), .iface 78 (.string (key j)), vv val del j] wx (fun e w' => e = .returned (.tuple #[]) ∧ Pair2 wc5 w' T1 P1 T2 P2 tm1 tm2 M1 M2 kl1 kl2 im1 im2 (nP + j + 1) (j + 1)) from fun wx hm =>
                pair_set2 (some ⟨La, 0, none⟩) hm (del j) (vv_val val del j) VN.out (by omega) (by omega))
              cases hdj : del j with
              | true =>
                as_aux_lemma =>
                  rw [hdj] at hc4
                  have hvv : vv val del j = .iface 69 (.int .u8 0) := by unfold vv; rw [hdj]; rfl
                  rw [hvv] at C1 C2
                  have HVV := Lib.hid hvv
                  clear hvv
                  go_wp2_with fail
                  refine (C1.out _ (Upd.refl _ _)).mono ?_
                  rintro e w2 ⟨rfl, hm⟩
                  have MM := Lib.hid hm
                  have U2 := Lib.hid (show Upd (fun _ => False) wc5 w2 by obtain ⟨_, _, _, _, _, _, _, _, _, _, _, _, _, _, _, _, _, _, _, _, h, _⟩ := hm.ex; exact h)
                  clear hm C1
                  obtain ⟨e2, o2, he2, hd2⟩ := (H2.out.upd U2.out (fun c h => h.elim)).one (j := j) (by omega)
                  cases he2
                  go_wp2_with fail
                  refine (C2.out _ MM.out).mono ?_
                  rintro e w3 ⟨rfl, hp⟩
                  have PP := Lib.hid hp
                  clear hp C2
                  go_wp2
                  go_roundw
                  case rel => exact ⟨j + 1, by omega, by go_num, PP.out⟩
                  case measure => simp [intOf]; omega
              | false =>
                as_aux_lemma =>
                  rw [hdj] at hc4
                  obtain ⟨b3, off3, rfl, hc3⟩ := (H3.out.upd U10.out (fun c h => h.elim)).one (j := j) (by omega)
                  have hvv : vv val del j = .iface 53 (.float .f64 (val j)) := by unfold vv; rw [hdj]; rfl
                  rw [hvv] at C1 C2
                  have HVV := Lib.hid hvv
                  clear hvv
                  go_wp2_with fail
                  refine wp_region_tail_at 12 (by kernel_rfl) (by kernel_rfl) (fun W1 hW1 => ?_)
                  have UW := Lib.hid (show Upd (fun _ => False) wr W1 by rw [hW1]; exact (Upd.refl _ _).drew)
                  have hc2 : W1.cell? ⟨b2, off2 + j, none⟩ = some (.string (key j)) := by rw [hW1]; exact hc2
                  have hc3 : W1.cell? ⟨b3, off3 + j, none⟩ = some (.float .f64 (val j)) := by rw [hW1]; exact hc3
                  clear hW1
                  simp only [List.take_succ_cons, List.take_zero, List.drop_succ_cons, List.drop_zero]
                  repeat still_step
                  refine wpStill_nil ?_
                  go_wp2_with fail
                  refine (C1.out _ UW.out).mono ?_
                  rintro e w2 ⟨rfl, hm⟩
                  have MM := Lib.hid hm
                  have U2 := Lib.hid (show Upd (fun _ => False) wc5 w2 by obtain ⟨_, _, _, _, _, _, _, _, _, _, _, _, _, _, _, _, _, _, _, _, h, _⟩ := hm.ex; exact h)
                  clear hm C1 hc2 hc3
                  obtain ⟨e2, o2, he2, hd2⟩ := (H2.out.upd U2.out (fun c h => h.elim)).one (j := j) (by omega)
                  obtain ⟨e3, o3, he3, hd3⟩ := (H3.out.upd U2.out (fun c h => h.elim)).one (j := j) (by omega)
                  cases he2
                  cases he3
                  go_wp2_with fail
                  refine wp_region_tail_at 13 (by kernel_rfl) (by kernel_rfl) (fun W2 hW2 => ?_)
                  have UV := Lib.hid (show Upd (fun _ => False) w2 W2 by rw [hW2]; exact (Upd.refl _ _).drew)
                  have hd2 : W2.cell? ⟨b2, off2 + j, none⟩ = some (.string (key j)) := by rw [hW2]; exact hd2
                  have hd3 : W2.cell? ⟨b3, off3 + j, none⟩ = some (.float .f64 (val j)) := by rw [hW2]; exact hd3
                  clear hW2
                  simp only [List.take_succ_cons, List.take_zero, List.drop_succ_cons, List.drop_zero]
                  repeat still_step
                  refine wpStill_nil ?_
                  go_wp2_with fail
                  have MV := Lib.hid (MM.out.upd UV.out)
                  refine (C2.out _ MV.out).mono ?_
                  rintro e w3 ⟨rfl, hp⟩
                  have PP := Lib.hid hp
                  clear hp C2
                  go_wp2
                  go_roundw
                  case rel => exact ⟨j + 1, by omega, by go_num, PP.out⟩
                  case measure => simp [intOf]; omega
            · obtain rfl : j = n := by omega
              obtain ⟨n, hnn⟩ : ∃ n, n = j := ⟨_, rfl⟩
              subst hnn
              obtain ⟨w12, hw12⟩ : ∃ w12 : World, w12 = wr := ⟨_, rfl⟩
              subst hw12
              have hws1 : IntKind.i64.wrap ((nP : Int) + (n : Int)) = ((nP + n : Nat) : Int) := by rw [IntWalk.i64_in _ (by omega)]; omega
              have hws2 : IntKind.i64.wrap (((nP + n : Nat) : Int) + (nQ : Int)) = ((nP + n + nQ : Nat) : Int) := by rw [IntWalk.i64_in _ (by omega)]; omega
              clear hlt
              go_wp2_with fail
              go_loopw [22] (fun iv wr => ∃ i : Nat, i ≤ nP + n + nQ ∧ iv = .int .i64 i ∧ Upd (fun _ => False) w12 wr) (fun iv _ => nP + n + nQ - (intOf iv).toNat)
              case atStart => exact ⟨0, Nat.zero_le _, rfl, Upd.refl _ _⟩
              case round =>
                obtain ⟨i, hi, rfl, hu11⟩ := hrel
                have U11 := Lib.hid hu11
                clear hu11
                have V11 := Lib.hid (U10.out.trans U11.out)
                by_cases hlt : i < nP + n + nQ
                · have k1 : (i : Int) < ((nP + n + nQ : Nat) : Int) := by omega
                  go_upto_if 213 with fail
                  go_cut [23] (fun s23 wc => ∃ q : ByteArray, s23 = .string q ∧ Upd (fun _ => False) w12 wc)
                  case first =>
                    by_cases hi1 : i < nP
                    · have k2 : (i : Int) < (nP : Int) := by omega
                      obtain ⟨bq, offq, hbq, hcq⟩ := (H1.out.upd V11.out (fun c h => h.elim)).one (j := i) (by omega)
                      subst hbq
                      have i1 : (0 : Int) ≤ (i : Int) := by omega
                      have i2 : (i : Int) < (nP : Int) := by omega
                      go_wp2
                      go_meet
                      case rel => exact ⟨_, rfl, U11.out⟩
                    · have k2 : ¬ (i : Int) < (nP : Int) := by omega
                      have i0 : IntKind.i64.wrap ((i : Int) - (nP : Int)) = ((i - nP : Nat) : Int) := by rw [IntWalk.i64_in _ (by omega)]; omega
                      by_cases hi2 : i < nP + n
                      · have k3 : (i : Int) < ((nP + n : Nat) : Int) := by omega
                        obtain ⟨bq, offq, hbq, hcq⟩ := (H2.out.upd V11.out (fun c h => h.elim)).one (j := i - nP) (by omega)
                        subst hbq
                        have i1 : (0 : Int) ≤ ((i - nP : Nat) : Int) := by omega
                        have i2 : ((i - nP : Nat) : Int) < (nK : Int) := by omega
                        go_wp2
                        go_meet
                        case rel => exact ⟨_, rfl, U11.out⟩
                      · have k3 : ¬ (i : Int) < ((nP + n : Nat) : Int) := by omega
                        obtain ⟨bq, offq, hbq, hcq⟩ := (H5.out.upd V11.out (fun c h => h.elim)).one (j := i - nP - n) (by omega)
                        subst hbq
                        have i00 : IntKind.i64.wrap (((i - nP : Nat) : Int) - (n : Int)) = ((i - nP - n : Nat) : Int) := by rw [IntWalk.i64_in _ (by omega)]; omega
                        have i1 : (0 : Int) ≤ ((i - nP - n : Nat) : Int) := by omega
                        have i2 : ((i - nP - n : Nat) : Int) < (nQ : Int) := by omega
                        go_wp2
                        go_meet
                        case rel => exact ⟨_, rfl, U11.out⟩
                  case rest =>
                    obtain ⟨q, rfl, hu12⟩ := hcut
                    clear U11 V11
                    have U11 := Lib.hid hu12
                    obtain ⟨v, u, hv, hu, hC⟩ := pair_read P10.out q
                    obtain ⟨C1, C2, C3, C4⟩ := hC _ hu12
                    have C1 := Lib.hid C1
                    have C2 := Lib.hid C2
                    have C3 := Lib.hid C3
                    have C4 := Lib.hid C4
                    have HV := Lib.hid hv
                    have HU := Lib.hid hu
                    clear hu12 hC hv hu
                    go_wp2_with fail
                    refine C1.out.mono ?_
                    rintro e w' ⟨rfl, rfl⟩
                    go_wp2_with fail
                    refine C2.out.mono ?_
                    rintro e w' ⟨rfl, rfl⟩
                    go_wp2_with fail
                    refine (raw_equal_nvs _ v _ HV.out).mono ?_
                    rintro e w' ⟨rfl, rfl⟩
                    go_wp2_with fail
                    refine C3.out.mono ?_
                    rintro e w' ⟨rfl, rfl⟩
                    go_wp2_with fail
                    refine C4.out.mono ?_
                    rintro e w' ⟨rfl, rfl⟩
                    go_wp2_with fail
                    refine (raw_equal_nvs _ u _ HU.out).mono ?_
                    rintro e w' ⟨rfl, rfl⟩
                    go_wp2
                    go_roundw
                    case rel => exact ⟨i + 1, by omega, by go_num, U11.out⟩
                    case measure => simp [intOf]; omega
                · obtain rfl : i = nP + n + nQ := by omega
                  go_wp2
                  go_ret
                  exact ⟨rfl, ((UC5.out.trans U10.out).trans U11.out).below (Nat.le_refl _) (fun _ h => h.elim)⟩

set_option maxHeartbeats 1600000 in
theorem agl_long (aP : Option Addr) (nP cP : Nat) (aK : Option Addr) (nK cK : Nat) (aV : Option Addr) (nV cV : Nat) (aD : Option Addr) (nD cD : Nat) (aQ : Option Addr) (nQ cQ : Nat) (pre : Nat → ByteArray) (key : Nat → ByteArray) (pr : Nat → ByteArray) (w : World) (mnP : nP ≤ 9223372036854775807) (mnK : nK ≤ 9223372036854775807) (mnV : nV ≤ 9223372036854775807) (mnD : nD ≤ 9223372036854775807) (mnQ : nQ ≤ 9223372036854775807) (hl : ¬ (nP ≤ 4096 ∧ nK ≤ 4096 ∧ nV ≤ 4096 ∧ nD ≤ 4096 ∧ nQ ≤ 4096)) (hnP : Cells w aP nP fun j => .string (pre j)) (hnK : Cells w aK nK fun j => .string (key j)) (hnQ : Cells w aQ nQ fun j => .string (pr j)) :
    Calls Tryz.prog 8 #[.slice aP nP cP, .slice aK nK cK, .slice aV nV cV, .slice aD nD cD, .slice aQ nQ cQ] w (Good w) := by
  have HP := Lib.hid hnP
  have HK := Lib.hid hnK
  have HQ := Lib.hid hnQ
  clear hnP hnK hnQ
  go_enter Tryz.func8, Tryz.ntmps8
  go_wp2_with fail
  refine (guard_agl aP nP cP aK nK cK aV nV cV aD nD cD aQ nQ cQ pre key pr _ mnP mnK mnV mnD mnQ HP.out HK.out HQ.out).mono ?_
  rintro e w' ⟨b, rfl, rfl⟩
  cases b with
  | false =>
    go_wp2
    go_ret
    exact ⟨rfl, Below.refl _ _⟩
  | true =>
    by_cases gnP : nP ≤ 4096
    case neg =>
      clear hl
      go_wp2
      all_goals
        go_ret
        exact ⟨rfl, Below.refl _ _⟩
    by_cases gnK : nK ≤ 4096
    case neg =>
      clear hl
      go_wp2
      all_goals
        go_ret
        exact ⟨rfl, Below.refl _ _⟩
    by_cases gnV : nV ≤ 4096
    case neg =>
      clear hl
      go_wp2
      all_goals
        go_ret
        exact ⟨rfl, Below.refl _ _⟩
    by_cases gnD : nD ≤ 4096
    case neg =>
      clear hl
      go_wp2
      all_goals
        go_ret
        exact ⟨rfl, Below.refl _ _⟩
    have gnQ : ¬ nQ ≤ 4096 := fun h => hl ⟨gnP, gnK, gnV, gnD, h⟩
    clear hl
    go_wp2
    all_goals
      go_ret
      exact ⟨rfl, Below.refl _ _⟩
end Go.Proofs.YtlmadbgpllokfaaGreatFmt
