/- FnSetFieldNewindexProxy: walked. -/
import Derived.Test.YtlmadbgpllokfaaGreatFmtPra
import Derived.Deep.DeepCutAuto
namespace Go.Proofs.YtlmadbgpllokfaaGreatFmt
open Go.RowKit Go.Mapy Go.Tbl
set_option maxRecDepth 100000

set_option maxHeartbeats 1600000 in
theorem guard_prl (aP : Option Addr) (nP cP : Nat) (aK : Option Addr) (nK cK : Nat) (aV : Option Addr) (nV cV : Nat) (aQ : Option Addr) (nQ cQ : Nat) (pre : Nat → ByteArray) (key : Nat → ByteArray) (pr : Nat → ByteArray) (w : World) (h0 : nP ≤ 9223372036854775807) (h1 : nK ≤ 9223372036854775807) (h2 : nV ≤ 9223372036854775807) (h3 : nQ ≤ 9223372036854775807) (c0 : Cells w aP nP fun j => .string (pre j)) (c1 : Cells w aK nK fun j => .string (key j)) (c3 : Cells w aQ nQ fun j => .string (pr j)) :
    Calls Tryz.prog 42 #[.slice aP nP cP, .slice aK nK cK, .slice aV nV cV, .slice aQ nQ cQ] w (SomeBool w) := by
  have HP := Lib.hid c0
  have HK := Lib.hid c1
  have HQ := Lib.hid c3
  clear c0 c1 c3
  go_enter Tryz.func42, Tryz.ntmps42
  by_cases hc0 : nP ≤ 1048576
  case neg =>
    go_wp2
    all_goals
      go_ret
      exact ⟨_, rfl, rfl⟩
  go_wp2
  go_loop [9, 10] (fun t i => ∃ (j : Nat) (z : Nat), j ≤ nP ∧ z ≤ 1048576 ∧ i = .int .i64 j ∧ t = .int .i64 z) (fun _ i => nP - (intOf i).toNat)
  case atStart => exact ⟨0, nP, Nat.zero_le _, by omega, rfl, by go_num⟩
  case round =>
    obtain ⟨j, z0, hj, hz, rfl, rfl⟩ := hrel
    by_cases hlt : j < nP
    · obtain ⟨b, off, rfl, hc⟩ := HP.out.one hlt
      have i1 : (0 : Int) ≤ (j : Int) := by omega
      have i2 : (j : Int) < (nP : Int) := by omega
      by_cases hk : (pre j).size ≤ 1048576
      case neg =>
        go_wp2
        all_goals
          go_ret
          exact ⟨_, rfl, rfl⟩
      by_cases hs1 : z0 + (pre j).size ≤ 1048576
      case neg =>
        go_wp2
        all_goals
          go_ret
          exact ⟨_, rfl, rfl⟩
      go_wp2
      go_round
      case rel => exact ⟨j + 1, z0 + (pre j).size, by omega, by omega, by go_num, by go_num⟩
      case measure => simp [intOf]; omega
    · obtain rfl : j = nP := by omega
      by_cases hc1 : nK ≤ 1048576
      case neg =>
        go_wp2
        all_goals
          go_ret
          exact ⟨_, rfl, rfl⟩
      by_cases hz1 : z0 + nK ≤ 1048576
      case neg =>
        go_wp2
        all_goals
          go_ret
          exact ⟨_, rfl, rfl⟩
      go_wp2
      go_loop [9, 11] (fun t i => ∃ (j : Nat) (z : Nat), j ≤ nK ∧ z ≤ 1048576 ∧ i = .int .i64 j ∧ t = .int .i64 z) (fun _ i => nK - (intOf i).toNat)
      case atStart => exact ⟨0, z0 + nK, Nat.zero_le _, by omega, rfl, by go_num⟩
      case round =>
        obtain ⟨j, z1, hj, hz, rfl, rfl⟩ := hrel
        by_cases hlt : j < nK
        · obtain ⟨b, off, rfl, hc⟩ := HK.out.one hlt
          have i1 : (0 : Int) ≤ (j : Int) := by omega
          have i2 : (j : Int) < (nK : Int) := by omega
          by_cases hk : (key j).size ≤ 1048576
          case neg =>
            go_wp2
            all_goals
              go_ret
              exact ⟨_, rfl, rfl⟩
          by_cases hs1 : z1 + (key j).size ≤ 1048576
          case neg =>
            go_wp2
            all_goals
              go_ret
              exact ⟨_, rfl, rfl⟩
          go_wp2
          go_round
          case rel => exact ⟨j + 1, z1 + (key j).size, by omega, by omega, by go_num, by go_num⟩
          case measure => simp [intOf]; omega
        · obtain rfl : j = nK := by omega
          by_cases hc2 : nV ≤ 1048576
          case neg =>
            go_wp2
            all_goals
              go_ret
              exact ⟨_, rfl, rfl⟩
          by_cases hz2 : z1 + nV ≤ 1048576
          case neg =>
            go_wp2
            all_goals
              go_ret
              exact ⟨_, rfl, rfl⟩
          by_cases hc3 : nQ ≤ 1048576
          case neg =>
            go_wp2
            all_goals
              go_ret
              exact ⟨_, rfl, rfl⟩
          by_cases hz3 : z1 + nV + nQ ≤ 1048576
          case neg =>
            go_wp2
            all_goals
              go_ret
              exact ⟨_, rfl, rfl⟩
          go_wp2
          go_loop [9, 12] (fun t i => ∃ (j : Nat) (z : Nat), j ≤ nQ ∧ z ≤ 1048576 ∧ i = .int .i64 j ∧ t = .int .i64 z) (fun _ i => nQ - (intOf i).toNat)
          case atStart => exact ⟨0, z1 + nV + nQ, Nat.zero_le _, by omega, rfl, by go_num⟩
          case round =>
            obtain ⟨j, z3, hj, hz, rfl, rfl⟩ := hrel
            by_cases hlt : j < nQ
            · obtain ⟨b, off, rfl, hc⟩ := HQ.out.one hlt
              have i1 : (0 : Int) ≤ (j : Int) := by omega
              have i2 : (j : Int) < (nQ : Int) := by omega
              by_cases hk : (pr j).size ≤ 1048576
              case neg =>
                go_wp2
                all_goals
                  go_ret
                  exact ⟨_, rfl, rfl⟩
              by_cases hs1 : z3 + (pr j).size ≤ 1048576
              case neg =>
                go_wp2
                all_goals
                  go_ret
                  exact ⟨_, rfl, rfl⟩
              go_wp2
              go_round
              case rel => exact ⟨j + 1, z3 + (pr j).size, by omega, by omega, by go_num, by go_num⟩
              case measure => simp [intOf]; omega
            · obtain rfl : j = nQ := by omega
              go_wp2
              go_ret
              exact ⟨_, rfl, rfl⟩

set_option maxHeartbeats 6400000 in
theorem prl_in (aP : Option Addr) (nP cP : Nat) (pre : Nat → ByteArray) (aK : Option Addr) (nK cK : Nat) (key : Nat → ByteArray) (aV : Option Addr) (nV cV : Nat) (val : Nat → Nat) (aQ : Option Addr) (nQ cQ : Nat) (pr : Nat → ByteArray) (w : World) (lnP : nP ≤ 4096) (lnK : nK ≤ 4096) (lnV : nV ≤ 4096) (lnQ : nQ ≤ 4096) (hnP : Cells w aP nP fun j => .string (pre j)) (hnK : Cells w aK nK fun j => .string (key j)) (hnV : Cells w aV nV fun j => .float .f64 (val j)) (hnQ : Cells w aQ nQ fun j => .string (pr j)) :
    Calls Tryz.prog 7 #[.slice aP nP cP, .slice aK nK cK, .slice aV nV cV, .slice aQ nQ cQ] w (Good w) := by
  have HP := Lib.hid hnP
  have HK := Lib.hid hnK
  have HV := Lib.hid hnV
  have HQ := Lib.hid hnQ
  clear hnP hnK hnV hnQ
  go_enter Tryz.func7, Tryz.ntmps7
  go_wp2_with fail
  refine (guard_prl aP nP cP aK nK cK aV nV cV aQ nQ cQ pre key pr _ (by omega) (by omega) (by omega) (by omega) HP.out HK.out HQ.out).mono ?_
  rintro e w' ⟨b, rfl, rfl⟩
  cases b with
  | false =>
    go_wp2
    go_ret
    exact ⟨rfl, Below.refl _ _⟩
  | true =>
    go_wp2_with fail
    refine (str_bytes aP nP cP pre _ lnP HP.out).mono ?_
    rintro e w' ⟨z1, hz1, rfl, rfl⟩
    go_wp2_with fail
    refine (str_bytes aK nK cK key _ lnK HK.out).mono ?_
    rintro e w' ⟨z2, hz2, rfl, rfl⟩
    go_wp2_with fail
    refine (str_bytes aQ nQ cQ pr _ lnQ HQ.out).mono ?_
    rintro e w' ⟨z3, hz3, rfl, rfl⟩
    by_cases hbig : z1 + z2 + 8 * nV + z3 ≤ 1048576
    case neg =>
      go_wp2
      go_ret
      exact ⟨rfl, Below.refl _ _⟩
    go_wp2_with fail
    refine (min_two nK nV _).mono ?_
    rintro e w' ⟨rfl, rfl⟩
    obtain ⟨n, hn⟩ : ∃ n, n = min nK nV := ⟨_, rfl⟩
    have nk : n ≤ nK := by omega
    have nv : n ≤ nV := by omega
    rw [← hn]
    clear hn
    go_wp2_with fail
    refine (vals_ok aV nV cV n val _ nv lnV HV.out).mono ?_
    rintro e w1 ⟨b, rfl, hu1, hb1⟩
    have U1 := Lib.hid hu1
    have B1 := Lib.hid hb1
    clear hu1 hb1
    cases b with
    | false =>
      go_wp2
      go_ret
      exact ⟨rfl, U1.out.below (Nat.le_refl _) (fun _ h => h.elim)⟩
    | true =>
      have SO := Lib.hid (B1.out rfl)
      clear B1 hbig
      go_wp2_with fail
      refine (cloneStr aP nP cP pre _ (by omega) (HP.out.upd U1.out)).mono ?_
      rintro e wc1 ⟨a1, c1, rfl, hu, h1⟩
      have UC1 := Lib.hid (U1.out.trans hu)
      have H1 := Lib.hid (Held.of_new h1)
      clear hu h1 U1
      go_wp2_with fail
      refine (cloneStr aK nK cK key _ (by omega) (HK.out.upd UC1.out)).mono ?_
      rintro e wc2 ⟨a2, c2, rfl, hu, h1⟩
      have UC2 := Lib.hid (UC1.out.trans hu)
      have H1 := Lib.hid ((H1.out.upd hu (fun c h => h.elim)).mono hu.size)
      have H2 := Lib.hid (Held.of_new h1)
      clear hu h1 UC1
      go_wp2_with fail
      refine (cloneFlo aV nV cV val _ (by omega) (HV.out.upd UC2.out)).mono ?_
      rintro e wc3 ⟨a3, c3, rfl, hu, h1⟩
      have UC3 := Lib.hid (UC2.out.trans hu)
      have H1 := Lib.hid ((H1.out.upd hu (fun c h => h.elim)).mono hu.size)
      have H2 := Lib.hid ((H2.out.upd hu (fun c h => h.elim)).mono hu.size)
      have H3 := Lib.hid (Held.of_new h1)
      clear hu h1 UC2
      go_wp2_with fail
      refine (cloneStr aQ nQ cQ pr _ (by omega) (HQ.out.upd UC3.out)).mono ?_
      rintro e wc4 ⟨a4, c4, rfl, hu, h1⟩
      have UC4 := Lib.hid (UC3.out.trans hu)
      have H1 := Lib.hid ((H1.out.upd hu (fun c h => h.elim)).mono hu.size)
      have H2 := Lib.hid ((H2.out.upd hu (fun c h => h.elim)).mono hu.size)
      have H3 := Lib.hid ((H3.out.upd hu (fun c h => h.elim)).mono hu.size)
      have H4 := Lib.hid (Held.of_new h1)
      clear hu h1 UC3
      clear HP HK HV HQ
      go_wp2_with fail
      refine (new_ls _).mono ?_
      rintro e w7 ⟨La, rfl, hu7⟩
      have U7 := Lib.hid hu7
      clear hu7
      go_wp2_with fail
      refine (new_table _ _).mono ?_
      rintro e w8 ⟨T1, A1, m1, rfl, hn1⟩
      have N1 := Lib.hid hn1
      clear hn1
      go_wp2_with fail
      refine (new_table _ _).mono ?_
      rintro e w9 ⟨T2, A2, m2, rfl, hn2⟩
      have N2 := Lib.hid hn2
      clear hn2
      go_wp2_with fail
      refine (new_table _ _).mono ?_
      rintro e w10 ⟨T3, A3, m3, rfl, hn3⟩
      have N3 := Lib.hid hn3
      clear hn3
      go_wp2_with fail
      refine (set_string (tnew T3 A3 m3) nilw sn0 [] [] nxs (tabv T2) false _ (tab_val T2) (by simp) (Tab.new N3.out)).mono ?_
      rintro e w11 hs
      obtain rfl : e = .returned (.tuple #[]) := hs.1
      have hk := SetStr.key hs (tab_val T2)
      obtain ⟨tm, Sm, km, im, g1, g2, g3, g4⟩ := trio_new N1.out N2.out N3.out hk
      have c0 : w11.cell? ⟨T1, 0, none⟩ = some nilw := by
        obtain ⟨_, tm', _, _, _, _, q2, _⟩ := hk
        have l1 : T1 < w8.heap.size := (Tab.new N1.out).lt (.inl rfl)
        have b1 := (N3.out.upd.blk (N2.out.upd.blk N1.out.tb (fun h => h)) (fun h => h))
        have b2 := q2.blk b1 (fun h => by
          have := new_fp N3.out _ h
          have := N2.out.upd.size
          omega)
        exact b2.at (o := 0) rfl
      have f0 : w11.frozen? ⟨T1, 0, none⟩ = false := by
        obtain ⟨_, tm', _, _, _, _, q2, _⟩ := hk
        have l1 : T1 < w8.heap.size := (Tab.new N1.out).lt (.inl rfl)
        have b1 := (N3.out.upd.blk (N2.out.upd.blk N1.out.tb (fun h => h)) (fun h => h))
        have b2 := q2.blk b1 (fun h => by
          have := new_fp N3.out _ h
          have := N2.out.upd.size
          omega)
        exact b2.free 0
      have TR := Lib.hid g2
      have FP := Lib.hid (show ∀ c, Fp3 (tnew T1 A1 m1) tm (tnew T2 A2 m2) c → wc4.heap.size ≤ c from fun c h => Nat.le_trans U7.out.size (g3 c h))
      have U8 := Lib.hid (U7.out.trans g4)
      clear hs hk g1 g2 g3 g4 N1 N2 N3 U7
      unfold nilw at c0
      go_wp2_with fail
      obtain ⟨wz, hwz⟩ : ∃ wz, wz = w11.setCell ⟨T1, 0, none⟩ (tabv T3) := ⟨_, rfl⟩
      rw [← hwz] at TR U8
      rw [show w11.setCell ⟨T1, 0, none⟩ (.iface 32 (.pointer (some ⟨T3, 0, none⟩))) = wz from hwz.symm]
      clear hwz c0 f0
      go_loopw [14] (fun iv wr => ∃ (j : Nat) (t : Tbs) (S : St) (ks : List Value) (ix : List MapEntry), j ≤ nP ∧ iv = .int .i64 j ∧ t.T = T1 ∧ Upd (fun _ => False) wc4 wr ∧ (∀ c, Fp3 t tm (tnew T2 A2 m2) c → wc4.heap.size ≤ c) ∧ Trio wr t tm (tnew T2 A2 m2) S ks ix Sm km im sn0 [] [] ∧ RanK (fun m => .str (pre m)) (fun _ => numv 13830554455654793216) j S ∧ ks.length ≤ j) (fun iv _ => nP - (intOf iv).toNat)
      case atStart => exact ⟨0, _, sn0, [], [], Nat.zero_le _, rfl, rfl, U8.out, FP.out, TR.out, ranK_zero _ _, by simp⟩
      case round =>
        obtain ⟨j, t, S, ks, ix, hj, rfl, hT, hu9, hf9, ht9, hr9, hk9⟩ := hrel
        have U9 := Lib.hid hu9
        have F9 := Lib.hid hf9
        have T9 := Lib.hid ht9
        have R9 := Lib.hid hr9
        have hTT := Lib.hid hT
        clear hu9 hf9 ht9 hr9 hT U8 FP TR
        by_cases hlt : j < nP
        · obtain ⟨b1, off1, rfl, hc1⟩ := (H1.out.upd U9.out (fun c h => h.elim)).one (j := j) (by omega)
          have i1 : (0 : Int) ≤ (j : Int) := by omega
          have i2 : (j : Int) < (nP : Int) := by omega
          have C := set_string t (tabv tm.T) S ks ix (pre j) (numv 13830554455654793216) false wr (.inr ⟨rfl, _, _, rfl, by decide, rfl⟩) (by omega) T9.out.tt
          rw [hTT.out] at C
          have CC := Lib.hid C
          clear C
          unfold numv at CC
          have fin : ∀ e w', SetStr t (tabv tm.T) S ks ix (pre j) (numv 13830554455654793216) false wr e w' → e = .returned (.tuple #[]) ∧ ∃ (t' : Tbs) (S' : St) (ks' : List Value) (ix' : List MapEntry), t'.T = T1 ∧ Upd (fun _ => False) wc4 w' ∧ (∀ c, Fp3 t' tm (tnew T2 A2 m2) c → wc4.heap.size ≤ c) ∧ Trio w' t' tm (tnew T2 A2 m2) S' ks' ix' Sm km im sn0 [] [] ∧ RanK (fun m => .str (pre m)) (fun _ => numv 13830554455654793216) (j + 1) S' ∧ ks'.length ≤ j + 1 := fun e w' hs => by
            obtain ⟨he, t', S', ks', ix', q1, q2, q3, q4, q5, q6, q7⟩ := SetStr.key hs (.inr ⟨rfl, _, _, rfl, by decide, rfl⟩)
            have H := T9.out
            refine ⟨he, t', S', ks', ix', q1.trans hTT.out, U9.out.trans_new q2 (fun c hc => F9.out c (.inl hc)), fun c hc => ?_, ⟨q4, H.tm.upd q2 (fun c hc ht => H.d1 c ht hc), H.tp.upd q2 (fun c hc ht => H.d2 c ht hc), H.nx, H.d1.turn q3 H.tm, H.d2.turn q3 H.tp, H.d3⟩, R9.out.next q5, by omega⟩
            rcases hc with hc | hc | hc
            · rcases q3 c hc with h | h
              · exact F9.out c (.inl h)
              · have := U9.out.size; omega
            · exact F9.out c (.inr (.inl hc))
            · exact F9.out c (.inr (.inr hc))
          have FIN := Lib.hid fin
          clear fin
          go_wp2_with fail
          refine CC.out.mono ?_
          intro e w' hs
          obtain ⟨rfl, t', S', ks', ix', g1, g2, g3, g4, g5, g6⟩ := FIN.out e w' hs
          have G := Lib.hid (⟨g1, g2, g3, g4, g5, g6⟩ : _ ∧ _ ∧ _ ∧ _ ∧ _ ∧ _)
          clear hs g1 g2 g3 g4 g5 g6
          go_wp2
          go_roundw
          case rel => exact ⟨j + 1, t', S', ks', ix', by omega, by go_num, G.out.1, G.out.2.1, G.out.2.2.1, G.out.2.2.2.1, G.out.2.2.2.2.1, G.out.2.2.2.2.2⟩
          case measure => simp [intOf]; omega
        · obtain rfl : j = nP := by omega
          obtain ⟨nP, hnn⟩ : ∃ nP, nP = j := ⟨_, rfl⟩
          subst hnn
          have PX := Lib.hid (prox_start (val := val) (key := key) R9.out)
          clear hlt R9
          go_wp2_with fail
          go_loopw [15] (fun iv wr => ∃ (j : Nat) (t p : Tbs) (S : St) (ks : List Value) (ix : List MapEntry) (Sp : St) (kp : List Value) (ip : List MapEntry), j ≤ n ∧ iv = .int .i64 j ∧ t.T = T1 ∧ p.T = T2 ∧ Upd (fun _ => False) wc4 wr ∧ (∀ c, Fp3 t tm p c → wc4.heap.size ≤ c) ∧ Trio wr t tm p S ks ix Sm km im Sp kp ip ∧ Prox pre nP key val j S Sp ∧ ks.length ≤ nP + j ∧ kp.length ≤ j) (fun iv _ => n - (intOf iv).toNat)
          case atStart => exact ⟨0, t, tnew T2 A2 m2, S, ks, ix, sn0, [], [], Nat.zero_le _, rfl, hTT.out, rfl, U9.out, F9.out, T9.out, PX.out, by omega, by simp⟩
          case round =>
            obtain ⟨j, t, p, S, ks, ix, Sp, kp, ip, hj, rfl, hT, hT2, hu10, hf10, ht10, hr10, hk10, hp10⟩ := hrel
            have U10 := Lib.hid hu10
            have F10 := Lib.hid hf10
            have T10 := Lib.hid ht10
            have R10 := Lib.hid hr10
            have hTT1 := Lib.hid hT
            have hTT2 := Lib.hid hT2
            clear hu10 hf10 ht10 hr10 hT hT2 U9 F9 T9 PX hTT
            by_cases hlt : j < n
            · obtain ⟨b2, off2, rfl, hc2⟩ := (H2.out.upd U10.out (fun c h => h.elim)).one (j := j) (by omega)
              obtain ⟨b3, off3, rfl, hc3⟩ := (H3.out.upd U10.out (fun c h => h.elim)).one (j := j) (by omega)
              have i1 : (0 : Int) ≤ (j : Int) := by omega
              have i2 : (j : Int) < (nK : Int) := by omega
              have i3 : (j : Int) < (nV : Int) := by omega
              have CW := Lib.hid (show ∀ wx : World, Upd (fun _ => False) wr wx → ∃ here, (here = true ↔ ∃ b, holds S (.str (key j)) = numv b) ∧ Calls Tryz.prog 32 #[.pointer (some ⟨La, 0, none⟩), .iface 32 (.pointer (some ⟨T1, 0, none⟩)), .string (key j), .iface 53 (.float .f64 (val j))] wx (SetTrio t tm p S ks Sm km im Sp kp (.str (key j)) (numv (val j)) here wx) from fun wx hux => by
                obtain ⟨here, h1, C⟩ := prx_field (some ⟨La, 0, none⟩) t tm p S ks ix Sm km im Sp kp ip (key j) (numv (val j)) false wx (.inr ⟨rfl, _, _, rfl, by decide, rfl⟩) (by omega) (by omega) (R10.out.nv (key j)).1 (R10.out.nv (key j)).2 (T10.out.upd hux (fun _ _ h => h))
                rw [hTT1.out] at C
                exact ⟨here, h1, C⟩)
              have fin : ∀ wx : World, Upd (fun _ => False) wr wx → ∀ here e w', (here = true ↔ ∃ b, holds S (.str (key j)) = numv b) → SetTrio t tm p S ks Sm km im Sp kp (.str (key j)) (numv (val j)) here wx e w' → e = .returned (.tuple #[]) ∧ ∃ (t' p' : Tbs) (S' : St) (ks' : List Value) (ix' : List MapEntry) (Sp' : St) (kp' : List Value) (ip' : List MapEntry), t'.T = T1 ∧ p'.T = T2 ∧ Upd (fun _ => False) wc4 w' ∧ (∀ c, Fp3 t' tm p' c → wc4.heap.size ≤ c) ∧ Trio w' t' tm p' S' ks' ix' Sm km im Sp' kp' ip' ∧ Prox pre nP key val (j + 1) S' Sp' ∧ ks'.length ≤ nP + (j + 1) ∧ kp'.length ≤ j + 1 := fun wx hux here e w' hh ⟨he, t', p', S', ks', ix', Sp', kp', ip', q1, q2, q3, q4, q5, q6, q7, q8, q9, _, _⟩ =>
                ⟨he, t', p', S', ks', ix', Sp', kp', ip', q1.trans hTT1.out, q2.trans hTT2.out, (U10.out.trans hux).trans_new q3 F10.out, fun c hc => by
                  rcases q4 c hc with h | h
                  · exact F10.out c h
                  · have := U10.out.size; have := hux.size; omega, q5, R10.out.next hh q6 q7, by omega, by omega⟩
              have FIN := Lib.hid fin
              clear fin
              go_wp2_with fail
              refine wp_region_tail_at 12 (by kernel_rfl) (by kernel_rfl) (fun W1 hW1 => ?_)
              have UW := Lib.hid (show Upd (fun _ => False) wr W1 by rw [hW1]; exact (Upd.refl _ _).drew)
              have hc2 : W1.cell? ⟨b2, off2 + j, none⟩ = some (.string (key j)) := by rw [hW1]; exact hc2
              have hc3 : W1.cell? ⟨b3, off3 + j, none⟩ = some (.float .f64 (val j)) := by rw [hW1]; exact hc3
              obtain ⟨here, hh, C⟩ := CW.out W1 UW.out
              have HH := Lib.hid hh
              have CC := Lib.hid C
              clear CW hW1 hh C
              simp only [List.take_succ_cons, List.take_zero, List.drop_succ_cons, List.drop_zero]
              repeat still_step
              refine wpStill_nil ?_
              go_wp2_with fail
              refine CC.out.mono ?_
              intro e w' hs
              obtain ⟨rfl, t', p', S', ks', ix', Sp', kp', ip', g1, g2, g3, g4, g5, g6, g7, g8⟩ := FIN.out W1 UW.out here e w' HH.out hs
              have G := Lib.hid (⟨g1, g2, g3, g4, g5, g6, g7, g8⟩ : _ ∧ _ ∧ _ ∧ _ ∧ _ ∧ _ ∧ _ ∧ _)
              clear hs g1 g2 g3 g4 g5 g6 g7 g8
              go_wp2
              go_roundw
              case rel => exact ⟨j + 1, t', p', S', ks', ix', Sp', kp', ip', by omega, by go_num, G.out.1, G.out.2.1, G.out.2.2.1, G.out.2.2.2.1, G.out.2.2.2.2.1, G.out.2.2.2.2.2.1, G.out.2.2.2.2.2.2.1, G.out.2.2.2.2.2.2.2⟩
              case measure => simp [intOf]; omega
            · obtain rfl : j = n := by omega
              obtain ⟨n, hnn⟩ : ∃ n, n = j := ⟨_, rfl⟩
              subst hnn
              obtain ⟨w12, hw12⟩ : ∃ w12 : World, w12 = wr := ⟨_, rfl⟩
              subst hw12
              have hws1 : IntKind.i64.wrap ((nP : Int) + (n : Int)) = ((nP + n : Nat) : Int) := by rw [IntWalk.i64_in _ (by omega)]; omega
              have hws2 : IntKind.i64.wrap (((nP + n : Nat) : Int) + (nQ : Int)) = ((nP + n + nQ : Nat) : Int) := by rw [IntWalk.i64_in _ (by omega)]; omega
              clear hlt
              go_wp2_with fail
              go_loopw [17] (fun iv wr => ∃ i : Nat, i ≤ nP + n + nQ ∧ iv = .int .i64 i ∧ Upd (fun _ => False) w12 wr) (fun iv _ => nP + n + nQ - (intOf iv).toNat)
              case atStart => exact ⟨0, Nat.zero_le _, rfl, Upd.refl _ _⟩
              case round =>
                obtain ⟨i, hi, rfl, hu11⟩ := hrel
                have U11 := Lib.hid hu11
                clear hu11
                have V11 := Lib.hid (U10.out.trans U11.out)
                by_cases hlt : i < nP + n + nQ
                · have k1 : (i : Int) < ((nP + n + nQ : Nat) : Int) := by omega
                  go_upto_if 139 with fail
                  go_cut [18] (fun s18 wc => ∃ q : ByteArray, s18 = .string q ∧ Upd (fun _ => False) w12 wc)
                  case first =>
                    by_cases hi1 : i < nP
                    · have k2 : (i : Int) < (nP : Int) := by omega
                      obtain ⟨bq, offq, hbq, hcq⟩ := (H1.out.upd V11.out (fun c h => h.elim)).one (j := i) (by omega)
                      subst hbq
                      have i1 : (0 : Int) ≤ (i : Int) := by omega
                      have i2 : (i : Int) < (nP : Int) := by omega
                      go_wp2
                      go_meet
                      case rel => exact ⟨_, rfl, U11.out⟩
                    · have k2 : ¬ (i : Int) < (nP : Int) := by omega
                      have i0 : IntKind.i64.wrap ((i : Int) - (nP : Int)) = ((i - nP : Nat) : Int) := by rw [IntWalk.i64_in _ (by omega)]; omega
                      by_cases hi2 : i < nP + n
                      · have k3 : (i : Int) < ((nP + n : Nat) : Int) := by omega
                        obtain ⟨bq, offq, hbq, hcq⟩ := (H2.out.upd V11.out (fun c h => h.elim)).one (j := i - nP) (by omega)
                        subst hbq
                        have i1 : (0 : Int) ≤ ((i - nP : Nat) : Int) := by omega
                        have i2 : ((i - nP : Nat) : Int) < (nK : Int) := by omega
                        go_wp2
                        go_meet
                        case rel => exact ⟨_, rfl, U11.out⟩
                      · have k3 : ¬ (i : Int) < ((nP + n : Nat) : Int) := by omega
                        obtain ⟨bq, offq, hbq, hcq⟩ := (H4.out.upd V11.out (fun c h => h.elim)).one (j := i - nP - n) (by omega)
                        subst hbq
                        have i00 : IntKind.i64.wrap (((i - nP : Nat) : Int) - (n : Int)) = ((i - nP - n : Nat) : Int) := by rw [IntWalk.i64_in _ (by omega)]; omega
                        have i1 : (0 : Int) ≤ ((i - nP - n : Nat) : Int) := by omega
                        have i2 : ((i - nP - n : Nat) : Int) < (nQ : Int) := by omega
                        go_wp2
                        go_meet
                        case rel => exact ⟨_, rfl, U11.out⟩
                  case rest =>
                    obtain ⟨q, rfl, hu12⟩ := hcut
                    clear U11 V11
                    have U11 := Lib.hid hu12
                    have V11 := Lib.hid (U10.out.trans U11.out)
                    clear hu12
                    have HC := Lib.hid (has_str a1 nP c1 pre q _ (by omega) (H1.out.upd V11.out (fun c h => h.elim)).cells)
                    have LC := Lib.hid (last_str a2 nK c2 n key q _ nk (by omega) (H2.out.upd V11.out (fun c h => h.elim)).cells)
                    have TC := rget_str t (tabv tm.T) S ks ix q _ (T10.out.upd U11.out (fun _ _ h => h)).tt
                    have PC := rget_str p nilw Sp kp ip q _ (T10.out.upd U11.out (fun _ _ h => h)).tp
                    rw [hTT1.out] at TC
                    rw [hTT2.out] at PC
                    have hR := R10.out q
                    obtain ⟨vt, hvt⟩ : ∃ v, holds S (.str q) = v := ⟨_, rfl⟩
                    obtain ⟨vp, hvp⟩ : ∃ v, holds Sp (.str q) = v := ⟨_, rfl⟩
                    rw [hvt, hvp] at hR
                    rw [hvt] at TC
                    rw [hvp] at PC
                    have TC := Lib.hid TC
                    have PC := Lib.hid PC
                    clear hvt hvp
                    go_wp2_with fail
                    refine HC.out.mono ?_
                    rintro e w' ⟨rfl, rfl⟩
                    go_wp2_with fail
                    refine LC.out.mono ?_
                    rintro e w' ⟨rfl, rfl⟩
                    go_wp2_with fail
                    refine TC.out.mono ?_
                    rintro e w' ⟨rfl, rfl⟩
                    go_wp2_with fail
                    refine PC.out.mono ?_
                    rintro e w' ⟨rfl, rfl⟩
                    clear HC LC TC PC
                    cases hb : has pre nP q with
                    | true =>
                      obtain ⟨e1, e2⟩ := hR.1 hb
                      subst e2
                      clear hR hb
                      unfold pv at e1
                      unfold nilw
                      cases hl : Last.last seqk key q n with
                      | none =>
                        rw [hl] at e1
                        subst e1
                        rw [show lk seqk key q n = -1 by unfold lk; rw [hl]]
                        clear hl
                        go_wp2_with fail
                        refine (nil_type _).mono ?_
                        rintro e w' ⟨rfl, rfl⟩
                        go_wp2_with fail
                        refine (raw_equal _ 13830554455654793216 _ (by decide +kernel)).mono ?_
                        rintro e w' ⟨rfl, rfl⟩
                        go_wp2
                        go_roundw
                        case rel => exact ⟨i + 1, by omega, by go_num, U11.out⟩
                        case measure => simp [intOf]; omega
                      | some m =>
                        have hm : m < n := Last.last_lt _ hl
                        rw [hl] at e1
                        subst e1
                        rw [show lk seqk key q n = (m : Int) by unfold lk; rw [hl]]
                        have m1 : (0 : Int) ≤ (m : Int) := by omega
                        have m3 : (m : Int) < (nV : Int) := by omega
                        obtain ⟨b3, off3, rfl, hc3⟩ := (H3.out.upd V11.out (fun c h => h.elim)).one (j := m) (by omega)
                        clear hl
                        go_wp2_with fail
                        refine (nil_type _).mono ?_
                        rintro e w' ⟨rfl, rfl⟩
                        go_wp2_with fail
                        refine (raw_equal _ (val m) _ (SO.out m hm)).mono ?_
                        rintro e w' ⟨rfl, rfl⟩
                        go_wp2
                        go_roundw
                        case rel => exact ⟨i + 1, by omega, by go_num, U11.out⟩
                        case measure => simp [intOf]; omega
                    | false =>
                      obtain ⟨e1, e2⟩ := hR.2 hb
                      subst e1
                      clear hR hb
                      unfold pv at e2
                      unfold nilw
                      cases hl : Last.last seqk key q n with
                      | none =>
                        rw [hl] at e2
                        obtain rfl : vp = .iface 69 (.int .u8 0) := e2
                        rw [show lk seqk key q n = -1 by unfold lk; rw [hl]]
                        clear hl
                        go_wp2_with fail
                        refine (nil_type _).mono ?_
                        rintro e w' ⟨rfl, rfl⟩
                        go_wp2_with fail
                        refine (nil_type _).mono ?_
                        rintro e w' ⟨rfl, rfl⟩
                        go_wp2
                        go_roundw
                        case rel => exact ⟨i + 1, by omega, by go_num, U11.out⟩
                        case measure => simp [intOf]; omega
                      | some m =>
                        have hm : m < n := Last.last_lt _ hl
                        rw [hl] at e2
                        subst e2
                        rw [show lk seqk key q n = (m : Int) by unfold lk; rw [hl]]
                        have m1 : (0 : Int) ≤ (m : Int) := by omega
                        have m3 : (m : Int) < (nV : Int) := by omega
                        obtain ⟨b3, off3, rfl, hc3⟩ := (H3.out.upd V11.out (fun c h => h.elim)).one (j := m) (by omega)
                        clear hl
                        go_wp2_with fail
                        refine (nil_type _).mono ?_
                        rintro e w' ⟨rfl, rfl⟩
                        go_wp2_with fail
                        refine (raw_equal _ (val m) _ (SO.out m hm)).mono ?_
                        rintro e w' ⟨rfl, rfl⟩
                        go_wp2
                        go_roundw
                        case rel => exact ⟨i + 1, by omega, by go_num, U11.out⟩
                        case measure => simp [intOf]; omega
                · obtain rfl : i = nP + n + nQ := by omega
                  go_wp2
                  go_ret
                  exact ⟨rfl, ((UC4.out.trans U10.out).trans U11.out).below (Nat.le_refl _) (fun _ h => h.elim)⟩

set_option maxHeartbeats 1600000 in
theorem prl_long (aP : Option Addr) (nP cP : Nat) (aK : Option Addr) (nK cK : Nat) (aV : Option Addr) (nV cV : Nat) (aQ : Option Addr) (nQ cQ : Nat) (pre : Nat → ByteArray) (key : Nat → ByteArray) (pr : Nat → ByteArray) (w : World) (mnP : nP ≤ 9223372036854775807) (mnK : nK ≤ 9223372036854775807) (mnV : nV ≤ 9223372036854775807) (mnQ : nQ ≤ 9223372036854775807) (hl : ¬ (nP ≤ 4096 ∧ nK ≤ 4096 ∧ nV ≤ 4096 ∧ nQ ≤ 4096)) (hnP : Cells w aP nP fun j => .string (pre j)) (hnK : Cells w aK nK fun j => .string (key j)) (hnQ : Cells w aQ nQ fun j => .string (pr j)) :
    Calls Tryz.prog 7 #[.slice aP nP cP, .slice aK nK cK, .slice aV nV cV, .slice aQ nQ cQ] w (Good w) := by
  have HP := Lib.hid hnP
  have HK := Lib.hid hnK
  have HQ := Lib.hid hnQ
  clear hnP hnK hnQ
  go_enter Tryz.func7, Tryz.ntmps7
  go_wp2_with fail
  refine (guard_prl aP nP cP aK nK cK aV nV cV aQ nQ cQ pre key pr _ mnP mnK mnV mnQ HP.out HK.out HQ.out).mono ?_
  rintro e w' ⟨b, rfl, rfl⟩
  cases b with
  | false =>
    go_wp2
    go_ret
    exact ⟨rfl, Below.refl _ _⟩
  | true =>
    by_cases gnP : nP ≤ 4096
    case neg =>
      clear hl
      go_wp2
      all_goals
        go_ret
        exact ⟨rfl, Below.refl _ _⟩
    by_cases gnK : nK ≤ 4096
    case neg =>
      clear hl
      go_wp2
      all_goals
        go_ret
        exact ⟨rfl, Below.refl _ _⟩
    by_cases gnV : nV ≤ 4096
    case neg =>
      clear hl
      go_wp2
      all_goals
        go_ret
        exact ⟨rfl, Below.refl _ _⟩
    have gnQ : ¬ nQ ≤ 4096 := fun h => hl ⟨gnP, gnK, gnV, h⟩
    clear hl
    go_wp2
    all_goals
      go_ret
      exact ⟨rfl, Below.refl _ _⟩
end Go.Proofs.YtlmadbgpllokfaaGreatFmt
