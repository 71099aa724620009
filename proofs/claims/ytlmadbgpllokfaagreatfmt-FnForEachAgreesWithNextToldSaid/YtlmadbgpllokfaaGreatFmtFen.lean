/- FnForEachAgreesWithNext: walked. -/
import Derived.Test.YtlmadbgpllokfaaGreatFmtNxu
import Derived.Test.YtlmadbgpllokfaaGreatFmtFrb
namespace Go.Proofs.YtlmadbgpllokfaaGreatFmt
open Go.RowKit Go.Mapy Go.Tbl
set_option maxRecDepth 100000

theorem mkRoomV (k : Nat) (z : Int) (hz : z = (k : Int)) (hk : k ≤ 1048576) (w : World) : (Instr.makeSlice 84 (.int .i64 0) (.int .i64 z)).run Tryz.prog w = .ok (.slice (some ⟨w.heap.size, 0, none⟩) 0 k) (w.alloc (.cells (tab k fun _ => Value.nilIface).toArray 49)) := by
  subst hz
  have h := run_made1 (P := Tryz.prog) 84 49 .nilIface 16 Tryz.underlying84 (by kernel_rfl) (by decide) k (by omega) (by omega) w
  have e : (List.replicate k Value.nilIface.cells.toList).flatten = tab k fun _ => Value.nilIface := by
    rw [← tab_rep]
    show (List.replicate k [Value.nilIface]).flatten = _
    rw [List.flatten_replicate_singleton]
  rw [e] at h
  exact h

set_option maxHeartbeats 1600000 in
theorem guard_fen (aI : Option Addr) (nI cI : Nat) (aV : Option Addr) (nV cV : Nat) (aD : Option Addr) (nD cD : Nat) (aS : Option Addr) (nS cS : Nat) (aW : Option Addr) (nW cW : Nat) (aE : Option Addr) (nE cE : Nat) (sk : Nat → ByteArray) (w : World) (h0 : nI ≤ 9223372036854775807) (h1 : nV ≤ 9223372036854775807) (h2 : nD ≤ 9223372036854775807) (h3 : nS ≤ 9223372036854775807) (h4 : nW ≤ 9223372036854775807) (h5 : nE ≤ 9223372036854775807) (c3 : Cells w aS nS fun j => .string (sk j)) :
    Calls Tryz.prog 55 #[.slice aI nI cI, .slice aV nV cV, .slice aD nD cD, .slice aS nS cS, .slice aW nW cW, .slice aE nE cE] w (SomeBool w) := by
  have HS := Lib.hid c3
  clear c3
  go_enter Tryz.func55, Tryz.ntmps55
  by_cases hc0 : nI ≤ 1048576
  case neg =>
    go_wp2
    all_goals
      go_ret
      exact ⟨_, rfl, rfl⟩
  by_cases hc1 : nV ≤ 1048576
  case neg =>
    go_wp2
    all_goals
      go_ret
      exact ⟨_, rfl, rfl⟩
  by_cases hz1 : nI + nV ≤ 1048576
  case neg =>
    go_wp2
    all_goals
      go_ret
      exact ⟨_, rfl, rfl⟩
  by_cases hc2 : nD ≤ 1048576
  case neg =>
    go_wp2
    all_goals
      go_ret
      exact ⟨_, rfl, rfl⟩
  by_cases hz2 : nI + nV + nD ≤ 1048576
  case neg =>
    go_wp2
    all_goals
      go_ret
      exact ⟨_, rfl, rfl⟩
  by_cases hc3 : nS ≤ 1048576
  case neg =>
    go_wp2
    all_goals
      go_ret
      exact ⟨_, rfl, rfl⟩
  by_cases hz3 : nI + nV + nD + nS ≤ 1048576
  case neg =>
    go_wp2
    all_goals
      go_ret
      exact ⟨_, rfl, rfl⟩
  go_wp2
  go_loop [13, 14] (fun t i => ∃ (j : Nat) (z : Nat), j ≤ nS ∧ z ≤ 1048576 ∧ i = .int .i64 j ∧ t = .int .i64 z) (fun _ i => nS - (intOf i).toNat)
  case atStart => exact ⟨0, nI + nV + nD + nS, Nat.zero_le _, by omega, rfl, by go_num⟩
  case round =>
    obtain ⟨j, z3, hj, hz, rfl, rfl⟩ := hrel
    by_cases hlt : j < nS
    · obtain ⟨b, off, rfl, hc⟩ := HS.out.one hlt
      have i1 : (0 : Int) ≤ (j : Int) := by omega
      have i2 : (j : Int) < (nS : Int) := by omega
      by_cases hk : (sk j).size ≤ 1048576
      case neg =>
        go_wp2
        all_goals
          go_ret
          exact ⟨_, rfl, rfl⟩
      by_cases hs1 : z3 + (sk j).size ≤ 1048576
      case neg =>
        go_wp2
        all_goals
          go_ret
          exact ⟨_, rfl, rfl⟩
      go_wp2
      go_round
      case rel => exact ⟨j + 1, z3 + (sk j).size, by omega, by omega, by go_num, by go_num⟩
      case measure => simp [intOf]; omega
    · obtain rfl : j = nS := by omega
      by_cases hc4 : nW ≤ 1048576
      case neg =>
        go_wp2
        all_goals
          go_ret
          exact ⟨_, rfl, rfl⟩
      by_cases hz4 : z3 + nW ≤ 1048576
      case neg =>
        go_wp2
        all_goals
          go_ret
          exact ⟨_, rfl, rfl⟩
      by_cases hc5 : nE ≤ 1048576
      case neg =>
        go_wp2
        all_goals
          go_ret
          exact ⟨_, rfl, rfl⟩
      by_cases hz5 : z3 + nW + nE ≤ 1048576
      case neg =>
        go_wp2
        all_goals
          go_ret
          exact ⟨_, rfl, rfl⟩
      go_wp2
      go_ret
      exact ⟨_, rfl, rfl⟩

set_option maxHeartbeats 25600000 in
theorem fen_in (aI : Option Addr) (nI cI : Nat) (ik : Nat → Int) (aV : Option Addr) (nV cV : Nat) (iv : Nat → Nat) (aD : Option Addr) (nD cD : Nat) (id : Nat → Bool) (aS : Option Addr) (nS cS : Nat) (sk : Nat → ByteArray) (aW : Option Addr) (nW cW : Nat) (sv : Nat → Nat) (aE : Option Addr) (nE cE : Nat) (sd : Nat → Bool) (w : World) (lnI : nI ≤ 4096) (lnV : nV ≤ 4096) (lnD : nD ≤ 4096) (lnS : nS ≤ 4096) (lnW : nW ≤ 4096) (lnE : nE ≤ 4096) (hnI : Cells w aI nI fun j => .int .i64 (ik j)) (hnV : Cells w aV nV fun j => .float .f64 (iv j)) (hnD : Cells w aD nD fun j => .bool (id j)) (hnS : Cells w aS nS fun j => .string (sk j)) (hnW : Cells w aW nW fun j => .float .f64 (sv j)) (hnE : Cells w aE nE fun j => .bool (sd j)) :
    Calls Tryz.prog 10 #[.slice aI nI cI, .slice aV nV cV, .slice aD nD cD, .slice aS nS cS, .slice aW nW cW, .slice aE nE cE] w (Good w) := by
  have HI := Lib.hid hnI
  have HV := Lib.hid hnV
  have HD := Lib.hid hnD
  have HS := Lib.hid hnS
  have HW := Lib.hid hnW
  have HE := Lib.hid hnE
  clear hnI hnV hnD hnS hnW hnE
  go_enter Tryz.func10, Tryz.ntmps10
  go_wp2_with fail
  refine (guard_fen aI nI cI aV nV cV aD nD cD aS nS cS aW nW cW aE nE cE sk _ (by omega) (by omega) (by omega) (by omega) (by omega) (by omega) HS.out).mono ?_
  rintro e w' ⟨b, rfl, rfl⟩
  cases b with
  | false =>
    go_wp2
    go_ret
    exact ⟨rfl, Below.refl _ _⟩
  | true =>
    go_wp2_with fail
    refine (str_bytes aS nS cS sk _ lnS HS.out).mono ?_
    rintro e w' ⟨z1, hz1, rfl, rfl⟩
    by_cases hbig : 8 * nI + 8 * nV + nD + z1 + 8 * nW + nE ≤ 1048576
    case neg =>
      go_wp2
      go_ret
      exact ⟨rfl, Below.refl _ _⟩
    go_wp2_with fail
    refine (min_three nI nV nD _).mono ?_
    rintro e w' ⟨rfl, rfl⟩
    obtain ⟨ni, hn⟩ : ∃ n, n = min nI (min nV nD) := ⟨_, rfl⟩
    have ni1 : ni ≤ nI := by omega
    have ni2 : ni ≤ nV := by omega
    have ni3 : ni ≤ nD := by omega
    rw [← hn]
    clear hn
    go_wp2_with fail
    refine (min_three nS nW nE _).mono ?_
    rintro e w' ⟨rfl, rfl⟩
    obtain ⟨ns, hn⟩ : ∃ n, n = min nS (min nW nE) := ⟨_, rfl⟩
    have ns1 : ns ≤ nS := by omega
    have ns2 : ns ≤ nW := by omega
    have ns3 : ns ≤ nE := by omega
    rw [← hn]
    clear hn
    go_wp2_with fail
    refine (script_ok aI aV aD nI cI nV cV nD cD ni ik iv id _ ni1 ni2 ni3 lnI lnV HI.out HV.out HD.out).mono ?_
    rintro e w1 ⟨b, rfl, hu1, hb1⟩
    have U1 := Lib.hid hu1
    have B1 := Lib.hid hb1
    clear hu1 hb1
    cases b with
    | false =>
      go_wp2
      go_ret
      exact ⟨rfl, U1.out.below (Nat.le_refl _) (fun _ h => h.elim)⟩
    | true =>
      have KO := Lib.hid (B1.out rfl).1
      have SO := Lib.hid (B1.out rfl).2
      clear B1 hbig
      go_wp2_with fail
      refine (stored_ok aW aE nW cW nE cE ns sv sd _ ns2 ns3 lnW (HW.out.upd U1.out) (HE.out.upd U1.out)).mono ?_
      rintro e w2 ⟨b, rfl, hu2, hb2⟩
      have U2 := Lib.hid (U1.out.trans hu2)
      have B2 := Lib.hid hb2
      clear hu2 hb2 U1
      cases b with
      | false =>
        go_wp2
        go_ret
        exact ⟨rfl, U2.out.below (Nat.le_refl _) (fun _ h => h.elim)⟩
      | true =>
        have SP := Lib.hid (B2.out rfl)
        clear B2
        go_wp2_with fail
        refine (cloneInt aI nI cI ik _ (by omega) (HI.out.upd U2.out)).mono ?_
        rintro e wc1 ⟨a1, c1, rfl, hu, h1⟩
        have UC1 := Lib.hid (U2.out.trans hu)
        have H1 := Lib.hid (Held.of_new h1)
        clear hu h1 U2
        go_wp2_with fail
        refine (cloneFlo aV nV cV iv _ (by omega) (HV.out.upd UC1.out)).mono ?_
        rintro e wc2 ⟨a2, c2, rfl, hu, h1⟩
        have UC2 := Lib.hid (UC1.out.trans hu)
        have H1 := Lib.hid ((H1.out.upd hu (fun c h => h.elim)).mono hu.size)
        have H2 := Lib.hid (Held.of_new h1)
        clear hu h1 UC1
        go_wp2_with fail
        refine (cloneBool aD nD cD id _ (by omega) (HD.out.upd UC2.out)).mono ?_
        rintro e wc3 ⟨a3, c3, rfl, hu, h1⟩
        have UC3 := Lib.hid (UC2.out.trans hu)
        have H1 := Lib.hid ((H1.out.upd hu (fun c h => h.elim)).mono hu.size)
        have H2 := Lib.hid ((H2.out.upd hu (fun c h => h.elim)).mono hu.size)
        have H3 := Lib.hid (Held.of_new h1)
        clear hu h1 UC2
        go_wp2_with fail
        refine (cloneStr aS nS cS sk _ (by omega) (HS.out.upd UC3.out)).mono ?_
        rintro e wc4 ⟨a4, c4, rfl, hu, h1⟩
        have UC4 := Lib.hid (UC3.out.trans hu)
        have H1 := Lib.hid ((H1.out.upd hu (fun c h => h.elim)).mono hu.size)
        have H2 := Lib.hid ((H2.out.upd hu (fun c h => h.elim)).mono hu.size)
        have H3 := Lib.hid ((H3.out.upd hu (fun c h => h.elim)).mono hu.size)
        have H4 := Lib.hid (Held.of_new h1)
        clear hu h1 UC3
        go_wp2_with fail
        refine (cloneFlo aW nW cW sv _ (by omega) (HW.out.upd UC4.out)).mono ?_
        rintro e wc5 ⟨a5, c5, rfl, hu, h1⟩
        have UC5 := Lib.hid (UC4.out.trans hu)
        have H1 := Lib.hid ((H1.out.upd hu (fun c h => h.elim)).mono hu.size)
        have H2 := Lib.hid ((H2.out.upd hu (fun c h => h.elim)).mono hu.size)
        have H3 := Lib.hid ((H3.out.upd hu (fun c h => h.elim)).mono hu.size)
        have H4 := Lib.hid ((H4.out.upd hu (fun c h => h.elim)).mono hu.size)
        have H5 := Lib.hid (Held.of_new h1)
        clear hu h1 UC4
        go_wp2_with fail
        refine (cloneBool aE nE cE sd _ (by omega) (HE.out.upd UC5.out)).mono ?_
        rintro e wc6 ⟨a6, c6, rfl, hu, h1⟩
        have UC6 := Lib.hid (UC5.out.trans hu)
        have H1 := Lib.hid ((H1.out.upd hu (fun c h => h.elim)).mono hu.size)
        have H2 := Lib.hid ((H2.out.upd hu (fun c h => h.elim)).mono hu.size)
        have H3 := Lib.hid ((H3.out.upd hu (fun c h => h.elim)).mono hu.size)
        have H4 := Lib.hid ((H4.out.upd hu (fun c h => h.elim)).mono hu.size)
        have H5 := Lib.hid ((H5.out.upd hu (fun c h => h.elim)).mono hu.size)
        have H6 := Lib.hid (Held.of_new h1)
        clear hu h1 UC5
        clear HI HV HD HS HW HE
        go_wp2_with fail
        refine (new_ls _).mono ?_
        rintro e w7 ⟨La, rfl, hu7⟩
        have U7 := Lib.hid hu7
        clear hu7
        go_wp2_with fail
        refine (new_table _ _).mono ?_
        rintro e w8 ⟨T, A, mp, rfl, hn8⟩
        have U8 := Lib.hid (U7.out.trans hn8.upd)
        have hfp := new_fp hn8
        have FP := Lib.hid (show ∀ c, Fp (tnew T A mp) c → wc6.heap.size ≤ c from fun c h => Nat.le_trans U7.out.size (hfp c h))
        have TB := Lib.hid (show Tab w8 (tnew T A mp) nilw sn0 [] [] from Tab.new hn8)
        clear hn8 hfp U7
        go_wp2_with fail
        refine (build_mixed (some ⟨La, 0, none⟩) T A mp a1 a2 a3 a4 a5 a6 nI c1 nV c2 nD c3 nS c4 nW c5 nE c6 ni ns ik iv id sk sv sd wc6 _ ni1 ni2 ni3 ns1 ns2 ns3 lnI lnS H1.out H2.out H3.out H4.out H5.out H6.out KO.out U8.out FP.out TB.out).mono ?_
        rintro e w9 ⟨rfl, t, S, ks, ix, hT, hu9, hf9, ht9, hr9, hl9, hk9, ho9⟩
        subst hT
        have U9 := Lib.hid hu9
        have F9 := Lib.hid hf9
        have T9 := Lib.hid ht9
        have R9 := Lib.hid hr9
        have O9 := Lib.hid ho9
        have GD := Lib.hid (mixed_good hr9 SO.out SP.out)
        have NVQ := Lib.hid (fun q => good_nv (mixed_good hr9 SO.out SP.out q))
        clear hu9 hf9 ht9 hr9 ho9 U8 FP TB
        have hmk := mkRoomV (ni + ns) ((ni : Int) + (ns : Int)) (by omega) (by omega)
        have hmf : ∀ (fn : Fn) (first cap : Array Value) (w : World), (Instr.makeFunc fn first cap).run Tryz.prog w = .ok (.func fn first cap) w := fun _ _ _ _ => rfl
        go_wp2_with fail
        obtain ⟨wF, hwF⟩ : ∃ wF, wF = (((w9.alloc (.cells (tab (ni + ns) fun _ => Value.nilIface).toArray 49)).alloc (.cells #[Value.slice (some ⟨w9.heap.size, 0, none⟩) 0 (ni + ns)] 84)).alloc (.cells (tab (ni + ns) fun _ => Value.nilIface).toArray 49)).alloc (.cells #[Value.slice (some ⟨w9.heap.size + 1 + 1, 0, none⟩) 0 (ni + ns)] 84) := ⟨_, rfl⟩
        obtain ⟨FX, IN, TF⟩ := fen_start U9.out F9.out T9.out (ni + ns) (by omega) hwF
        rw [← hwF]
        obtain ⟨Bv, hBv⟩ : ∃ Bv, w9.heap.size + 1 + 1 + 1 = Bv := ⟨_, rfl⟩
        rw [hBv] at FX IN ⊢
        obtain ⟨Bk, hBk⟩ : ∃ Bk, w9.heap.size + 1 = Bk := ⟨_, rfl⟩
        rw [hBk] at FX IN ⊢
        clear hBv hBk hwF hmk hmf
        have PLE := Lib.hid (pairs_le hl9 T9.out.fs T9.out.fn O9.out)
        have LP := Lib.hid (pairs_lists hl9 T9.out.fs T9.out.fn O9.out.clean)
        have LC := Lib.hid (chain_lists hl9 T9.out.fn O9.out)
        have NK := Lib.hid (fun e he => (T9.out.fn.keys e he).1)
        have CF := Lib.hid (l_for_each_2 (some ⟨La, 0, none⟩) (.pointer (some ⟨Bk, 0, none⟩)) (.pointer (some ⟨Bv, 0, none⟩)) t.T wF _ (for_each_2 (.pointer (some ⟨Bk, 0, none⟩)) (.pointer (some ⟨Bv, 0, none⟩)) t nilw S ks ix wF TF hl9 (arr_nv hl9 NVQ.out) (str_nv T9.out.fs NVQ.out) (num_nv T9.out.fn O9.out.clean NVQ.out) (InvN wc6 t wF.heap.size Bk Bv)
          (fun vis p w hp hlen hinv => by
            obtain ⟨q, e1, _, e3, e4⟩ := LP.out.sound p hp
            rcases GD.out q with h | ⟨b, hb, _⟩
            · rw [e3, h, nilw_nil] at e4
              cases e4
            · exact fen_cb FX hinv e1 (by rw [e3, hb]) (by have := PLE.out; omega))
          (fun vis w w' h hu => h.keep FX hu) IN))
        have TFH := Lib.hid TF
        clear FX IN TF T9 U9 F9
        refine CF.out.mono ?_
        rintro e w10 ⟨rfl, vis, hperm, hinv, hu10⟩
        clear CF
        have LV := Lib.hid (LP.out.perm hperm)
        have T10 := Lib.hid (TFH.out.upd hu10 (fun c hc h => h hc))
        obtain ⟨skv, svv, r1, r2, -, hub, -, -, -⟩ := hinv.ex
        obtain ⟨ak, ck, hsk, hck⟩ := row_shape r1.row
        obtain ⟨av, cv, hsv, hcv⟩ := row_shape r2.row
        subst hsk
        subst hsv
        rw [List.length_map] at hck hcv
        have hbk := r1.var
        have hbv := r2.var
        rw [List.length_map] at hbk hbv
        obtain ⟨n, hn⟩ : ∃ n, n = vis.length := ⟨_, rfl⟩
        have hnc : n = (chain S ks).length := by rw [hn]; exact LV.out.length LC.out
        have hnle : n ≤ 1048576 := by
          have h1 := hperm.length_eq
          have h2 := PLE.out
          omega
        rw [← hn] at hck hcv hbk hbv
        have BK := Lib.hid hbk
        have BV := Lib.hid hbv
        have CK := Lib.hid hck
        have CV := Lib.hid hcv
        have HN := Lib.hid hn
        have HNC := Lib.hid hnc
        have V10 := Lib.hid (UC6.out.trans hub)
        clear hperm hinv hu10 r1 r2 hub hck hcv hbk hbv hn hnc TFH LP PLE UC6
        go_wp2_with fail
        go_loopw [19] (fun iv wr => ∃ i : Nat, i ≤ n ∧ iv = .int .i64 i ∧ Upd (fun _ => False) w10 wr) (fun iv _ => n - (intOf iv).toNat)
        case atStart => exact ⟨0, Nat.zero_le _, rfl, Upd.refl _ _⟩
        case round =>
          obtain ⟨i, hi, rfl, hu⟩ := hrel
          have U := Lib.hid hu
          have cK := (hu.blk BK.out (fun h => h)).at (o := 0) rfl
          clear hu
          by_cases hlt : i < n
          · as_aux_lemma =>
              clear cK
              have cK := (U.out.blk BK.out (fun h => h)).at (o := 0) rfl
              go_wp2_with fail
              go_loopw [20] (fun jv wr => ∃ j : Nat, j ≤ i ∧ jv = .int .i64 j ∧ Upd (fun _ => False) w10 wr) (fun jv _ => i - (intOf jv).toNat)
              case atStart => exact ⟨0, Nat.zero_le _, rfl, U.out⟩
              case round =>
                obtain ⟨j, hj, rfl, hu2⟩ := hrel
                have U2 := Lib.hid hu2
                have cK := (hu2.blk BK.out (fun h => h)).at (o := 0) rfl
                clear hu2
                by_cases hlj : j < i
                · obtain ⟨p1, hp1, mp1, ek1, _⟩ := vis_at (vis := vis) (i := i) (by have := HN.out; omega)
                  obtain ⟨p2, hp2, mp2, ek2, _⟩ := vis_at (vis := vis) (i := j) (by have := HN.out; omega)
                  obtain ⟨q1, e1, _⟩ := LV.out.sound p1 mp1
                  obtain ⟨q2, e2, _⟩ := LV.out.sound p2 mp2
                  have hoff := two_at LV.out.two hlj hp1 hp2
                  rw [e1, e2, keyEq_kv] at hoff
                  have hcl := CK.out.upd U2.out
                  obtain ⟨bb, off, hak, hc1⟩ := hcl.one (j := i) hlt
                  obtain ⟨bb2, off2, hak2, hc2⟩ := hcl.one (j := j) (by omega)
                  subst hak
                  cases hak2
                  rw [ek1, e1] at hc1
                  rw [ek2, e2] at hc2
                  have RE := raw_equal_key (some ⟨La, 0, none⟩) q1 q2
                  rw [hoff] at RE
                  have RE := Lib.hid RE
                  obtain ⟨x1, hx1⟩ : ∃ x, kval q1 = x := ⟨_, rfl⟩
                  obtain ⟨x2, hx2⟩ : ∃ x, kval q2 = x := ⟨_, rfl⟩
                  rw [hx1, hx2] at RE
                  rw [hx1] at hc1
                  rw [hx2] at hc2
                  clear hx1 hx2 hoff e1 e2 ek1 ek2 hcl hp1 hp2 mp1 mp2
                  have i1 : (0 : Int) ≤ (i : Int) := by omega
                  have i2 : (i : Int) < (n : Int) := by omega
                  have i3 : (0 : Int) ≤ (j : Int) := by omega
                  have i4 : (j : Int) < (n : Int) := by omega
                  go_wp2_with fail
                  go_quiet ((go_at_call 35; exact Calls.quiet_of (RE.out _)))
                  go_wp2
                  go_roundw
                  case rel => exact ⟨j + 1, by omega, by go_num, U2.out.drewN _⟩
                  case measure => simp [intOf]; omega
                · obtain rfl : j = i := by omega
                  go_wp2
                  go_roundw
                  case rel => exact ⟨j + 1, by omega, by go_num, U2.out⟩
                  case measure => simp [intOf]; omega
          · obtain rfl : i = n := by omega
            obtain ⟨n, hnn⟩ : ∃ n, n = i := ⟨_, rfl⟩
            subst hnn
            obtain ⟨w11, hw11⟩ : ∃ w11 : World, w11 = wr := ⟨_, rfl⟩
            subst hw11
            have hmk := mkRoomV n (n : Int) rfl (by omega)
            obtain ⟨i0, hi0, hz0, hz1, hz2⟩ := info_parts infoLV
            clear hlt
            have cK1 := ((U.out.alloc (.cells (tab n fun _ => Value.nilIface).toArray 49)).blk BK.out (fun h => h)).at (o := 0) rfl
            have cK2 := (((U.out.alloc (.cells (tab n fun _ => Value.nilIface).toArray 49)).alloc (.cells (tab n fun _ => Value.nilIface).toArray 49)).blk BK.out (fun h => h)).at (o := 0) rfl
            go_wp2_with fail
            go_loopw [21, 22, 23, 24] (fun v1 v2 kv sv wr => ∃ p : Nat, p ≤ n ∧ sv = .int .i64 p ∧ kv = keyOf (chain S ks) p ∧ Got w11 wr v1 v2 (((chain S ks).take p).map (·.1)) (((chain S ks).take p).map (·.2))) (fun _ _ _ sv _ => n + 1 - (intOf sv).toNat)
            case atStart => exact ⟨0, Nat.zero_le _, rfl, rfl, got_new _ _ (by omega)⟩
            case round =>
              obtain ⟨p, hp, rfl, rfl, got⟩ := hrel
              have G := Lib.hid got
              have UW := Lib.hid (U.out.trans got.up)
              clear got cK1 cK2 hmk cK
              have cK := (UW.out.blk BK.out (fun h => h)).at (o := 0) rfl
              have NX := Lib.hid (l_next (some ⟨La, 0, none⟩) t.T _ _ wr (next_at t nilw S ks ix wr (T10.out.upd UW.out (fun _ _ h => h)) O9.out hl9 (by omega) NVQ.out p (by have := HNC.out; omega)))
              have HL3 := Lib.hid hnle
              by_cases hlt : p < n
              · as_aux_lemma =>
                  obtain ⟨q, b, hdr, hkey, htk⟩ := chain_at LC.out GD.out (p := p) (by have := HNC.out; omega)
                  rw [hdr] at NX
                  have HK := Lib.hid (And.intro hkey htk)
                  obtain ⟨K1, hK1⟩ : ∃ K, K = keyOf (chain S ks) p := ⟨_, rfl⟩
                  rw [← hK1] at NX ⊢
                  clear hdr hK1 hkey htk
                  cases q with
                  | num x =>
                    have NX2 : Hid (Calls Tryz.prog 57 #[.pointer (some ⟨La, 0, none⟩), .pointer (some ⟨t.T, 0, none⟩), K1] wr (fun e w' => e = .returned (.tuple #[.iface 53 (.float .f64 x), .iface 53 (.float .f64 b)]) ∧ wr = w')) := NX
                    clear NX
                    go_wp2_with fail
                    refine NX2.out.mono ?_
                    rintro e w' ⟨rfl, rfl⟩
                    clear NX2
                    go_wp2_with fail
                    refine (num_type x _).mono ?_
                    rintro e w' ⟨rfl, rfl⟩
                    go_wp2_with (first | (at_builtin; refine wpList_append_own_at _ rfl _ _ 84 rfl 0 49 i0 .nilIface 1 16 Tryz.underlying84 hi0 hz0 hz1 hz2 rfl (by decide) _ _ _ rfl (G.out.r1.alloc _) ⟨_, 0, none⟩ 1 1 [.iface 53 (.float .f64 x)] rfl rfl (cell_one_at (by simp)) (by intro u hu; simp at hu; subst hu; rfl) (by have := HL3.out; have := HNC.out; unfold maxLen; simp only [List.length_map, List.length_take]; omega) (by simp only [List.length_map, List.length_take]; omega) (Nat.zero_le _) ?_; intro v3 w4 hown hgrow hnil hloc; have G1 := Lib.hid (G.out.one hgrow rfl hown hloc); clear hown hgrow hnil hloc) | (at_builtin; refine wpList_append_own_at _ rfl _ _ 84 rfl 0 49 i0 .nilIface 1 16 Tryz.underlying84 hi0 hz0 hz1 hz2 rfl (by decide) _ _ _ rfl (G1.out.r2.alloc _) ⟨_, 0, none⟩ 1 1 [.iface 53 (.float .f64 b)] rfl rfl (cell_one_at (by simp)) (by intro u hu; simp at hu; subst hu; rfl) (by have := HL3.out; have := HNC.out; unfold maxLen; simp only [List.length_map, List.length_take]; omega) (by simp only [List.length_map, List.length_take]; omega) (Nat.zero_le _) ?_; intro v4 w5 hown hgrow hnil hloc; have G2 := Lib.hid (G1.out.two hgrow rfl hown hloc); clear hown hgrow hnil hloc))
                    go_roundw
                    case rel => exact ⟨p + 1, by omega, by go_num, HK.out.1.symm, G2.out.step HK.out.2⟩
                    case measure => simp [intOf]; omega
                  | str x =>
                    have NX2 : Hid (Calls Tryz.prog 57 #[.pointer (some ⟨La, 0, none⟩), .pointer (some ⟨t.T, 0, none⟩), K1] wr (fun e w' => e = .returned (.tuple #[.iface 78 (.string x), .iface 53 (.float .f64 b)]) ∧ wr = w')) := NX
                    clear NX
                    go_wp2_with fail
                    refine NX2.out.mono ?_
                    rintro e w' ⟨rfl, rfl⟩
                    clear NX2
                    go_wp2_with fail
                    refine (strg_type x _).mono ?_
                    rintro e w' ⟨rfl, rfl⟩
                    go_wp2_with (first | (at_builtin; refine wpList_append_own_at _ rfl _ _ 84 rfl 0 49 i0 .nilIface 1 16 Tryz.underlying84 hi0 hz0 hz1 hz2 rfl (by decide) _ _ _ rfl (G.out.r1.alloc _) ⟨_, 0, none⟩ 1 1 [.iface 78 (.string x)] rfl rfl (cell_one_at (by simp)) (by intro u hu; simp at hu; subst hu; rfl) (by have := HL3.out; have := HNC.out; unfold maxLen; simp only [List.length_map, List.length_take]; omega) (by simp only [List.length_map, List.length_take]; omega) (Nat.zero_le _) ?_; intro v3 w4 hown hgrow hnil hloc; have G1 := Lib.hid (G.out.one hgrow rfl hown hloc); clear hown hgrow hnil hloc) | (at_builtin; refine wpList_append_own_at _ rfl _ _ 84 rfl 0 49 i0 .nilIface 1 16 Tryz.underlying84 hi0 hz0 hz1 hz2 rfl (by decide) _ _ _ rfl (G1.out.r2.alloc _) ⟨_, 0, none⟩ 1 1 [.iface 53 (.float .f64 b)] rfl rfl (cell_one_at (by simp)) (by intro u hu; simp at hu; subst hu; rfl) (by have := HL3.out; have := HNC.out; unfold maxLen; simp only [List.length_map, List.length_take]; omega) (by simp only [List.length_map, List.length_take]; omega) (Nat.zero_le _) ?_; intro v4 w5 hown hgrow hnil hloc; have G2 := Lib.hid (G1.out.two hgrow rfl hown hloc); clear hown hgrow hnil hloc))
                    go_roundw
                    case rel => exact ⟨p + 1, by omega, by go_num, HK.out.1.symm, G2.out.step HK.out.2⟩
                    case measure => simp [intOf]; omega
              · obtain rfl : p = n := by omega
                obtain ⟨n, hnn⟩ : ∃ n, n = p := ⟨_, rfl⟩
                subst hnn
                rw [HNC.out, List.drop_length, ← HNC.out] at NX
                obtain ⟨K1, hK1⟩ : ∃ K, K = keyOf (chain S ks) n := ⟨_, rfl⟩
                rw [← hK1] at NX ⊢
                clear hK1
                have NX2 : Hid (Calls Tryz.prog 57 #[.pointer (some ⟨La, 0, none⟩), .pointer (some ⟨t.T, 0, none⟩), K1] wr (fun e w' => e = .returned (.tuple #[.iface 69 (.int .u8 0), .iface 69 (.int .u8 0)]) ∧ wr = w')) := NX
                clear NX
                obtain ⟨a1', k1', hv1, hc1⟩ := row_shape G.out.r1
                obtain ⟨a2', k2', hv2, hc2⟩ := row_shape G.out.r2
                subst hv1
                subst hv2
                have hlm : ((chain S ks).take n) = chain S ks := by rw [HNC.out, List.take_length]
                rw [hlm, List.length_map, ← HNC.out] at hc1 hc2
                rw [hlm, List.length_map, List.length_map, ← HNC.out]
                have C1 := Lib.hid hc1
                have C2 := Lib.hid hc2
                clear hc1 hc2 hlm G
                go_wp2_with fail
                refine NX2.out.mono ?_
                rintro e w' ⟨rfl, rfl⟩
                clear NX2
                go_wp2_with fail
                refine (nil_type _).mono ?_
                rintro e w' ⟨rfl, rfl⟩
                go_wp2_with fail
                obtain ⟨w12, hw12⟩ : ∃ w12 : World, w12 = wr := ⟨_, rfl⟩
                subst hw12
                clear cK
                go_loopw [27] (fun iv wr => ∃ i : Nat, i ≤ n ∧ iv = .int .i64 i ∧ Upd (fun _ => False) w12 wr) (fun iv _ => n - (intOf iv).toNat)
                case atStart => exact ⟨0, Nat.zero_le _, rfl, Upd.refl _ _⟩
                case round =>
                  obtain ⟨i, hi, rfl, hu⟩ := hrel
                  have U4 := Lib.hid (UW.out.trans hu)
                  have CW := Lib.hid hu
                  have cK := (U4.out.blk BK.out (fun h => h)).at (o := 0) rfl
                  have cV := (U4.out.blk BV.out (fun h => h)).at (o := 0) rfl
                  clear hu
                  by_cases hlt : i < n
                  · as_aux_lemma =>
                      obtain ⟨p1, hp1, mp1, ek1, ev1⟩ := vis_at (vis := vis) (i := i) (by have := HN.out; omega)
                      obtain ⟨q1, b1, e1, hs1, hb1⟩ := pair_at LV.out GD.out mp1
                      subst e1
                      have HP1 := Lib.hid hp1
                      have EK1 := Lib.hid ek1
                      have EV1 := Lib.hid ev1
                      have HS1 := Lib.hid hs1
                      have HB1 := Lib.hid hb1
                      clear hp1 mp1 ek1 ev1 hs1 hb1
                      go_wp2_with fail
                      go_loopw [28, 29] (fun fv jv w5 => ∃ j : Nat, ∃ f : Bool, j ≤ n ∧ fv = .bool f ∧ jv = .int .i64 j ∧ (f = false → ∀ m, m < j → ∀ p', (chain S ks)[m]? = some p' → keyEq (kval q1) p'.1 = false) ∧ Upd (fun _ => False) wr w5) (fun _ jv _ => n - (intOf jv).toNat)
                      case atStart => exact ⟨0, false, Nat.zero_le _, rfl, rfl, fun _ m hm => absurd hm (by omega), Upd.refl _ _⟩
                      case round =>
                        obtain ⟨j, f, hj, rfl, rfl, hall, hu5⟩ := hrel
                        have HA := Lib.hid hall
                        have U5 := Lib.hid (U4.out.trans hu5)
                        have U6 := Lib.hid (CW.out.trans hu5)
                        have U7 := Lib.hid hu5
                        clear hall hu5 cK cV
                        have cK := (U5.out.blk BK.out (fun h => h)).at (o := 0) rfl
                        have cV := (U5.out.blk BV.out (fun h => h)).at (o := 0) rfl
                        by_cases hlj : j < n
                        · obtain ⟨p2, hp2, mp2, ek2, ev2⟩ := vis_at (vis := chain S ks) (i := j) (by have := HNC.out; omega)
                          obtain ⟨q2, b2, e2, hs2, hb2⟩ := pair_at LC.out GD.out mp2
                          subst e2
                          obtain ⟨bb, off, hak, hc1⟩ := (CK.out.upd U5.out).one (j := i) hlt
                          obtain ⟨bv, offv, hav, hc3⟩ := (CV.out.upd U5.out).one (j := i) hlt
                          obtain ⟨bb2, off2, hak2, hc2⟩ := (C1.out.upd U6.out).one (j := j) hlj
                          obtain ⟨bv2, offv2, hav2, hc4⟩ := (C2.out.upd U6.out).one (j := j) hlj
                          subst hak
                          subst hav
                          subst hak2
                          subst hav2
                          rw [EK1.out] at hc1
                          rw [EV1.out] at hc3
                          rw [ek2] at hc2
                          rw [ev2] at hc4
                          have i1 : (0 : Int) ≤ (i : Int) := by omega
                          have i2 : (i : Int) < (n : Int) := by omega
                          have i3 : (0 : Int) ≤ (j : Int) := by omega
                          have i4 : (j : Int) < (n : Int) := by omega
                          cases hk : keq q1 q2 with
                          | true =>
                            have hbb : b1 = b2 := by
                              have h := holds_same NK.out hk
                              rw [HS1.out, hs2] at h
                              unfold numv at h
                              injection h with _ h
                              injection h
                            subst hbb
                            have RE : Hid (∀ w, Calls Tryz.prog 35 #[.pointer (some ⟨La, 0, none⟩), kval q1, kval q2] w fun e w' => e = .returned (.bool true) ∧ ∃ n, w' = w.drewN n) := Lib.hid (fun w => by
                              have h := raw_equal_key (some ⟨La, 0, none⟩) q1 q2 w
                              rw [hk] at h
                              exact h)
                            have RF : Hid (∀ w, Calls Tryz.prog 35 #[.pointer (some ⟨La, 0, none⟩), numv b1, numv b1] w fun e w' => e = .returned (.bool true) ∧ ∃ n, w' = w.drewN n) := Lib.hid (fun w => by
                              have h := raw_equal_key (some ⟨La, 0, none⟩) (.num b1) (.num b1) w
                              rw [HB1.out] at h
                              exact h)
                            replace hc1 : _ = some (kval q1) := hc1
                            replace hc2 : _ = some (kval q2) := hc2
                            replace hc3 : _ = some (numv b1) := hc3
                            replace hc4 : _ = some (numv b1) := hc4
                            obtain ⟨x1, hx1⟩ : ∃ x, kval q1 = x := ⟨_, rfl⟩
                            obtain ⟨x2, hx2⟩ : ∃ x, kval q2 = x := ⟨_, rfl⟩
                            obtain ⟨y1, hy1⟩ : ∃ x, numv b1 = x := ⟨_, rfl⟩
                            rw [hx1, hx2] at RE
                            rw [hy1] at RF
                            rw [hx1] at hc1
                            rw [hx2] at hc2
                            rw [hy1] at hc3 hc4
                            clear hx1 hx2 hy1 hk hb2 hs2 ek2 ev2 hp2 mp2
                            go_wp2_with fail
                            go_quiet ((go_at_call 35; first | exact Calls.quiet_of (RE.out _) | exact Calls.quiet_of (RF.out _)))
                            go_wp2
                            go_roundw
                            case rel => exact ⟨i + 1, by omega, by go_num, U6.out.drewN _⟩
                            case measure => simp [intOf]; omega
                          | false =>
                            have RE : Hid (∀ w, Calls Tryz.prog 35 #[.pointer (some ⟨La, 0, none⟩), kval q1, kval q2] w fun e w' => e = .returned (.bool false) ∧ ∃ n, w' = w.drewN n) := Lib.hid (fun w => by
                              have h := raw_equal_key (some ⟨La, 0, none⟩) q1 q2 w
                              rw [hk] at h
                              exact h)
                            have HK := Lib.hid (fun (p' : Pair) (h : (chain S ks)[j]? = some p') => (show keyEq (kval q1) p'.1 = false by
                              rw [hp2] at h
                              cases h
                              rw [keyEq_kv]
                              exact hk))
                            replace hc1 : _ = some (kval q1) := hc1
                            replace hc2 : _ = some (kval q2) := hc2
                            replace hc3 : _ = some (numv b1) := hc3
                            replace hc4 : _ = some (numv b2) := hc4
                            obtain ⟨x1, hx1⟩ : ∃ x, kval q1 = x := ⟨_, rfl⟩
                            obtain ⟨x2, hx2⟩ : ∃ x, kval q2 = x := ⟨_, rfl⟩
                            rw [hx1, hx2] at RE
                            rw [hx1] at hc1
                            rw [hx2] at hc2
                            clear hx2 hk hb2 hs2 ek2 ev2 hp2 mp2
                            have HX1 := Lib.hid hx1
                            clear hx1
                            go_wp2_with fail
                            go_quiet ((go_at_call 35; exact Calls.quiet_of (RE.out _)))
                            go_wp2
                            go_roundw
                            case rel => exact ⟨j + 1, f, by omega, rfl, by go_num, fun hf m hm p' h => by
                              rcases Nat.lt_succ_iff_lt_or_eq.1 hm with h1 | h1
                              · exact HA.out hf m h1 p' h
                              · rw [h1] at h
                                exact HK.out p' h, U7.out.drewN _⟩
                            case measure => simp [intOf]; omega
                        · obtain rfl : j = n := by omega
                          cases f with
                          | false =>
                            exact (meets_at LV.out LC.out HP1.out (fun m hm p' h => HA.out rfl m (by have := HNC.out; omega) p' h)).elim
                          | true =>
                            go_wp2
                            go_roundw
                            case rel => exact ⟨i + 1, by omega, by go_num, U6.out⟩
                            case measure => simp [intOf]; omega
                  · obtain rfl : i = n := by omega
                    go_wp2
                    go_ret
                    exact ⟨rfl, (V10.out.trans U4.out).below (Nat.le_refl _) (fun _ h => h.elim)⟩

set_option maxHeartbeats 1600000 in
theorem fen_long (aI : Option Addr) (nI cI : Nat) (aV : Option Addr) (nV cV : Nat) (aD : Option Addr) (nD cD : Nat) (aS : Option Addr) (nS cS : Nat) (aW : Option Addr) (nW cW : Nat) (aE : Option Addr) (nE cE : Nat) (sk : Nat → ByteArray) (w : World) (mnI : nI ≤ 9223372036854775807) (mnV : nV ≤ 9223372036854775807) (mnD : nD ≤ 9223372036854775807) (mnS : nS ≤ 9223372036854775807) (mnW : nW ≤ 9223372036854775807) (mnE : nE ≤ 9223372036854775807) (hl : ¬ (nI ≤ 4096 ∧ nV ≤ 4096 ∧ nD ≤ 4096 ∧ nS ≤ 4096 ∧ nW ≤ 4096 ∧ nE ≤ 4096)) (hnS : Cells w aS nS fun j => .string (sk j)) :
    Calls Tryz.prog 10 #[.slice aI nI cI, .slice aV nV cV, .slice aD nD cD, .slice aS nS cS, .slice aW nW cW, .slice aE nE cE] w (Good w) := by
  have HS := Lib.hid hnS
  clear hnS
  go_enter Tryz.func10, Tryz.ntmps10
  go_wp2_with fail
  refine (guard_fen aI nI cI aV nV cV aD nD cD aS nS cS aW nW cW aE nE cE sk _ mnI mnV mnD mnS mnW mnE HS.out).mono ?_
  rintro e w' ⟨b, rfl, rfl⟩
  cases b with
  | false =>
    go_wp2
    go_ret
    exact ⟨rfl, Below.refl _ _⟩
  | true =>
    by_cases gnI : nI ≤ 4096
    case neg =>
      clear hl
      go_wp2
      all_goals
        go_ret
        exact ⟨rfl, Below.refl _ _⟩
    by_cases gnV : nV ≤ 4096
    case neg =>
      clear hl
      go_wp2
      all_goals
        go_ret
        exact ⟨rfl, Below.refl _ _⟩
    by_cases gnD : nD ≤ 4096
    case neg =>
      clear hl
      go_wp2
      all_goals
        go_ret
        exact ⟨rfl, Below.refl _ _⟩
    by_cases gnS : nS ≤ 4096
    case neg =>
      clear hl
      go_wp2
      all_goals
        go_ret
        exact ⟨rfl, Below.refl _ _⟩
    by_cases gnW : nW ≤ 4096
    case neg =>
      clear hl
      go_wp2
      all_goals
        go_ret
        exact ⟨rfl, Below.refl _ _⟩
    have gnE : ¬ nE ≤ 4096 := fun h => hl ⟨gnI, gnV, gnD, gnS, gnW, h⟩
    clear hl
    go_wp2
    all_goals
      go_ret
      exact ⟨rfl, Below.refl _ _⟩
end Go.Proofs.YtlmadbgpllokfaaGreatFmt
