/- FnSetFieldPlainLastWrite: walked. -/
import Derived.Test.YtlmadbgpllokfaaGreatFmtFsb
namespace Go.Proofs.YtlmadbgpllokfaaGreatFmt
open Go.RowKit Go.Mapy Go.Tbl
set_option maxRecDepth 100000

set_option maxHeartbeats 1600000 in
theorem guard_fld (aK : Option Addr) (nK cK : Nat) (aV : Option Addr) (nV cV : Nat) (aD : Option Addr) (nD cD : Nat) (aP : Option Addr) (nP cP : Nat) (key : Nat → ByteArray) (pr : Nat → ByteArray) (w : World) (h0 : nK ≤ 9223372036854775807) (h1 : nV ≤ 9223372036854775807) (h2 : nD ≤ 9223372036854775807) (h3 : nP ≤ 9223372036854775807) (c0 : Cells w aK nK fun j => .string (key j)) (c3 : Cells w aP nP fun j => .string (pr j)) :
    Calls Tryz.prog 24 #[.slice aK nK cK, .slice aV nV cV, .slice aD nD cD, .slice aP nP cP] w (SomeBool w) := by
  have HK := Lib.hid c0
  have HP := Lib.hid c3
  clear c0 c3
  go_enter Tryz.func24, Tryz.ntmps24
  by_cases hc0 : nK ≤ 1048576
  case neg =>
    go_wp2
    all_goals
      go_ret
      exact ⟨_, rfl, rfl⟩
  go_wp2
  go_loop [9, 10] (fun t i => ∃ (j : Nat) (z : Nat), j ≤ nK ∧ z ≤ 1048576 ∧ i = .int .i64 j ∧ t = .int .i64 z) (fun _ i => nK - (intOf i).toNat)
  case atStart => exact ⟨0, nK, Nat.zero_le _, by omega, rfl, by go_num⟩
  case round =>
    obtain ⟨j, z0, hj, hz, rfl, rfl⟩ := hrel
    by_cases hlt : j < nK
    · obtain ⟨b, off, rfl, hc⟩ := HK.out.one hlt
      have i1 : (0 : Int) ≤ (j : Int) := by omega
      have i2 : (j : Int) < (nK : Int) := by omega
      by_cases hk : (key j).size ≤ 1048576
      case neg =>
        go_wp2
        all_goals
          go_ret
          exact ⟨_, rfl, rfl⟩
      by_cases hs1 : z0 + (key j).size ≤ 1048576
      case neg =>
        go_wp2
        all_goals
          go_ret
          exact ⟨_, rfl, rfl⟩
      go_wp2
      go_round
      case rel => exact ⟨j + 1, z0 + (key j).size, by omega, by omega, by go_num, by go_num⟩
      case measure => simp [intOf]; omega
    · obtain rfl : j = nK := by omega
      by_cases hc1 : nV ≤ 1048576
      case neg =>
        go_wp2
        all_goals
          go_ret
          exact ⟨_, rfl, rfl⟩
      by_cases hz1 : z0 + nV ≤ 1048576
      case neg =>
        go_wp2
        all_goals
          go_ret
          exact ⟨_, rfl, rfl⟩
      by_cases hc2 : nD ≤ 1048576
      case neg =>
        go_wp2
        all_goals
          go_ret
          exact ⟨_, rfl, rfl⟩
      by_cases hz2 : z0 + nV + nD ≤ 1048576
      case neg =>
        go_wp2
        all_goals
          go_ret
          exact ⟨_, rfl, rfl⟩
      by_cases hc3 : nP ≤ 1048576
      case neg =>
        go_wp2
        all_goals
          go_ret
          exact ⟨_, rfl, rfl⟩
      by_cases hz3 : z0 + nV + nD + nP ≤ 1048576
      case neg =>
        go_wp2
        all_goals
          go_ret
          exact ⟨_, rfl, rfl⟩
      go_wp2
      go_loop [9, 11] (fun t i => ∃ (j : Nat) (z : Nat), j ≤ nP ∧ z ≤ 1048576 ∧ i = .int .i64 j ∧ t = .int .i64 z) (fun _ i => nP - (intOf i).toNat)
      case atStart => exact ⟨0, z0 + nV + nD + nP, Nat.zero_le _, by omega, rfl, by go_num⟩
      case round =>
        obtain ⟨j, z3, hj, hz, rfl, rfl⟩ := hrel
        by_cases hlt : j < nP
        · obtain ⟨b, off, rfl, hc⟩ := HP.out.one hlt
          have i1 : (0 : Int) ≤ (j : Int) := by omega
          have i2 : (j : Int) < (nP : Int) := by omega
          by_cases hk : (pr j).size ≤ 1048576
          case neg =>
            go_wp2
            all_goals
              go_ret
              exact ⟨_, rfl, rfl⟩
          by_cases hs1 : z3 + (pr j).size ≤ 1048576
          case neg =>
            go_wp2
            all_goals
              go_ret
              exact ⟨_, rfl, rfl⟩
          go_wp2
          go_round
          case rel => exact ⟨j + 1, z3 + (pr j).size, by omega, by omega, by go_num, by go_num⟩
          case measure => simp [intOf]; omega
        · obtain rfl : j = nP := by omega
          go_wp2
          go_ret
          exact ⟨_, rfl, rfl⟩

set_option maxHeartbeats 3200000 in
theorem fld_in (aK aV aD aP : Option Addr) (nK cK nV cV nD cD nP cP : Nat) (key : Nat → ByteArray) (val : Nat → Nat) (del : Nat → Bool) (pr : Nat → ByteArray) (w : World) (lK : nK ≤ 4096) (lV : nV ≤ 4096) (lD : nD ≤ 4096) (lP : nP ≤ 4096)
    (hk : Cells w aK nK fun j => .string (key j)) (hv : Cells w aV nV fun j => .float .f64 (val j)) (hd : Cells w aD nD fun j => .bool (del j)) (hp : Cells w aP nP fun j => .string (pr j)) :
    Calls Tryz.prog 5 #[.slice aK nK cK, .slice aV nV cV, .slice aD nD cD, .slice aP nP cP] w (Good w) := by
  have HK := Lib.hid hk
  have HV := Lib.hid hv
  have HD := Lib.hid hd
  have HP := Lib.hid hp
  clear hk hv hd hp
  go_enter Tryz.func5, Tryz.ntmps5
  go_wp2_with fail
  refine (guard_fld aK nK cK aV nV cV aD nD cD aP nP cP key pr _ (by omega) (by omega) (by omega) (by omega) HK.out HP.out).mono ?_
  rintro e w' ⟨b, rfl, rfl⟩
  cases b with
  | false =>
    go_wp2
    go_ret
    exact ⟨rfl, Below.refl _ _⟩
  | true =>
    go_wp2_with fail
    refine (str_bytes aK nK cK key _ lK HK.out).mono ?_
    rintro e w' ⟨z1, hz1, rfl, rfl⟩
    go_wp2_with fail
    refine (str_bytes aP nP cP pr _ lP HP.out).mono ?_
    rintro e w' ⟨z2, hz2, rfl, rfl⟩
    by_cases hbig : z1 + 8 * nV + nD + z2 ≤ 1048576
    case neg =>
      go_wp2
      go_ret
      exact ⟨rfl, Below.refl _ _⟩
    go_wp2_with fail
    refine (min_three nK nV nD _).mono ?_
    rintro e w' ⟨rfl, rfl⟩
    obtain ⟨n, hn⟩ : ∃ n, n = min nK (min nV nD) := ⟨_, rfl⟩
    have nk : n ≤ nK := by omega
    have nv : n ≤ nV := by omega
    have nd : n ≤ nD := by omega
    rw [← hn]
    clear hn
    go_wp2_with fail
    refine (stored_ok aV aD nV cV nD cD n val del _ nv nd lV HV.out HD.out).mono ?_
    rintro e w1 ⟨b, rfl, hu1, hb1⟩
    have U1 := Lib.hid hu1
    have B1 := Lib.hid hb1
    clear hu1 hb1
    cases b with
    | false =>
      go_wp2
      go_ret
      exact ⟨rfl, U1.out.below (Nat.le_refl _) (fun _ h => h.elim)⟩
    | true =>
      have SO := Lib.hid (B1.out rfl)
      clear B1 hbig
      go_wp2_with fail
      refine (cloneStr aK nK cK key _ (by omega) (HK.out.upd U1.out)).mono ?_
      rintro e w3 ⟨a1, c1, rfl, hu3, h1⟩
      have U3 := Lib.hid (U1.out.trans hu3)
      have H1 := Lib.hid (Held.of_new h1)
      clear hu3 h1 U1
      go_wp2_with fail
      refine (cloneFlo aV nV cV val _ (by omega) (HV.out.upd U3.out)).mono ?_
      rintro e w4 ⟨a2, c2, rfl, hu4, h2⟩
      have U4 := Lib.hid (U3.out.trans hu4)
      have H1 := Lib.hid ((H1.out.upd hu4 (fun c h => h.elim)).mono hu4.size)
      have H2 := Lib.hid (Held.of_new h2)
      clear hu4 h2 U3
      go_wp2_with fail
      refine (cloneBool aD nD cD del _ (by omega) (HD.out.upd U4.out)).mono ?_
      rintro e w5 ⟨a3, c3, rfl, hu5, h3⟩
      have U5 := Lib.hid (U4.out.trans hu5)
      have H1 := Lib.hid ((H1.out.upd hu5 (fun c h => h.elim)).mono hu5.size)
      have H2 := Lib.hid ((H2.out.upd hu5 (fun c h => h.elim)).mono hu5.size)
      have H3 := Lib.hid (Held.of_new h3)
      clear hu5 h3 U4
      go_wp2_with fail
      refine (cloneStr aP nP cP pr _ (by omega) (HP.out.upd U5.out)).mono ?_
      rintro e w6 ⟨a4, c4, rfl, hu6, h4⟩
      have U6 := Lib.hid (U5.out.trans hu6)
      have H1 := Lib.hid ((H1.out.upd hu6 (fun c h => h.elim)).mono hu6.size)
      have H2 := Lib.hid ((H2.out.upd hu6 (fun c h => h.elim)).mono hu6.size)
      have H3 := Lib.hid ((H3.out.upd hu6 (fun c h => h.elim)).mono hu6.size)
      have H4 := Lib.hid (Held.of_new h4)
      clear hu6 h4 U5 HK HV HD HP
      go_wp2_with fail
      refine (new_ls _).mono ?_
      rintro e w7 ⟨La, rfl, hu7⟩
      have U7 := Lib.hid hu7
      clear hu7
      go_wp2_with fail
      refine (new_table _ _).mono ?_
      rintro e w8 ⟨T, A, m, rfl, hn8⟩
      have U8 := Lib.hid (U7.out.trans hn8.upd)
      have hfp := new_fp hn8
      have FP := Lib.hid (show ∀ c, Fp ⟨T, .slice (some ⟨A, 0, none⟩) 0 32, none, m, .slice none 0 0, none⟩ c → w6.heap.size ≤ c from fun c h => Nat.le_trans U7.out.size (hfp c h))
      have TB := Lib.hid (Tab.new hn8)
      clear hn8 hfp U7
      go_wp2_with fail
      go_loopw [12] (fun iv wr => ∃ (j : Nat) (t : Tbs) (S : St) (ks : List Value) (ix : List MapEntry), j ≤ n ∧ iv = .int .i64 j ∧ t.T = T ∧ Upd (fun _ => False) w6 wr ∧ (∀ c, Fp t c → w6.heap.size ≤ c) ∧ Tab wr t nilw S ks ix ∧ RanK (fun m => .str (key m)) (vv val del) j S ∧ S.arr.length ≤ 65536 ∧ ks.length ≤ j) (fun iv _ => n - (intOf iv).toNat)
      case atStart => exact ⟨0, _, ⟨[], [], []⟩, [], [], Nat.zero_le _, rfl, rfl, U8.out, FP.out, TB.out, ranK_zero _ _, by simp, by simp⟩
      case round =>
        obtain ⟨j, t, S, ks, ix, hj, rfl, hT, hu9, hf9, ht9, hr9, hl9, hk9⟩ := hrel
        have U9 := Lib.hid hu9
        have F9 := Lib.hid hf9
        have T9 := Lib.hid ht9
        have R9 := Lib.hid hr9
        have hTT := Lib.hid hT
        clear hu9 hf9 ht9 hr9 hT U8 FP TB
        by_cases hlt : j < n
        · obtain ⟨b1, off1, rfl, hc1⟩ := (H1.out.upd U9.out (fun c h => h.elim)).one (j := j) (by omega)
          obtain ⟨b3, off3, rfl, hc3⟩ := (H3.out.upd U9.out (fun c h => h.elim)).one (j := j) (by omega)
          have i1 : (0 : Int) ≤ (j : Int) := by omega
          have i2 : (j : Int) < (nK : Int) := by omega
          have i3 : (j : Int) < (nV : Int) := by omega
          have i4 : (j : Int) < (nD : Int) := by omega
          have CW := Lib.hid (show ∀ wx : World, Upd (fun _ => False) wr wx → Calls Tryz.prog 32 #[.pointer (some ⟨La, 0, none⟩), .iface 32 (.pointer (some ⟨T, 0, none⟩)), .string (key j), vv val del j] wx (SetKey t nilw S ks (.str (key j)) (vv val del j) wx) from fun wx hux => by
            have C := set_field (some ⟨La, 0, none⟩) t S ks ix (key j) (vv val del j) (del j) wx (vv_val val del j) (by omega) (R9.out.nv (vv_nv val del) _) (T9.out.upd hux (fun _ _ h => h))
            rw [hTT.out] at C
            exact C)
          have fin : ∀ wx : World, Upd (fun _ => False) wr wx → ∀ e w', SetKey t nilw S ks (.str (key j)) (vv val del j) wx e w' → e = .returned (.tuple #[]) ∧ ∃ (t' : Tbs) (S' : St) (ks' : List Value) (ix' : List MapEntry), t'.T = T ∧ Upd (fun _ => False) w6 w' ∧ (∀ c, Fp t' c → w6.heap.size ≤ c) ∧ Tab w' t' nilw S' ks' ix' ∧ RanK (fun m => .str (key m)) (vv val del) (j + 1) S' ∧ S'.arr.length ≤ 65536 ∧ ks'.length ≤ j + 1 := fun wx hux e w' ⟨he, t', S', ks', ix', h1, h2, h3, h4, h5, h6, h7⟩ =>
            ⟨he, t', S', ks', ix', h1.trans hTT.out, (U9.out.trans hux).trans_new h2 F9.out, fun c hc => by
              rcases h3 c hc with h | h
              · exact F9.out c h
              · have := U9.out.size; have := hux.size; omega, h4, R9.out.next h5, by omega, by omega⟩
          have FIN := Lib.hid fin
          clear fin
          cases hdj : del j with
          | true =>
            rw [hdj] at hc3
            have CC := Lib.hid (CW.out wr (Upd.refl _ _))
            rw [show vv val del j = .iface 69 (.int .u8 0) by unfold vv; rw [hdj]; rfl] at CC
            clear CW
            go_wp2_with fail
            refine CC.out.mono ?_
            intro e w' hs
            rw [show (Value.iface 69 (.int .u8 0)) = vv val del j by unfold vv; rw [hdj]; rfl] at hs
            obtain ⟨rfl, t', S', ks', ix', g1, g2, g3, g4, g5, g6, g7⟩ := FIN.out wr (Upd.refl _ _) e w' hs
            have G := Lib.hid (⟨g1, g2, g3, g4, g5, g6, g7⟩ : _ ∧ _ ∧ _ ∧ _ ∧ _ ∧ _ ∧ _)
            clear hs g1 g2 g3 g4 g5 g6 g7
            go_wp2
            go_roundw
            case rel => exact ⟨j + 1, t', S', ks', ix', by omega, by go_num, G.out.1, G.out.2.1, G.out.2.2.1, G.out.2.2.2.1, G.out.2.2.2.2.1, G.out.2.2.2.2.2.1, G.out.2.2.2.2.2.2⟩
            case measure => simp [intOf]; omega
          | false =>
            rw [hdj] at hc3
            obtain ⟨b2, off2, rfl, hc2⟩ := (H2.out.upd U9.out (fun c h => h.elim)).one (j := j) (by omega)
            go_wp2_with fail
            refine wp_region_tail_at 12 (by kernel_rfl) (by kernel_rfl) (fun W1 hW1 => ?_)
            have UW := Lib.hid (show Upd (fun _ => False) wr W1 by rw [hW1]; exact (Upd.refl _ _).drew)
            have hc1 : W1.cell? ⟨b1, off1 + j, none⟩ = some (.string (key j)) := by rw [hW1]; exact hc1
            have hc2 : W1.cell? ⟨b2, off2 + j, none⟩ = some (.float .f64 (val j)) := by rw [hW1]; exact hc2
            have CC := Lib.hid (CW.out W1 UW.out)
            rw [show vv val del j = .iface 53 (.float .f64 (val j)) by unfold vv; rw [hdj]; rfl] at CC
            clear CW hW1
            simp only [List.take_succ_cons, List.take_zero, List.drop_succ_cons, List.drop_zero]
            repeat still_step
            refine wpStill_nil ?_
            go_wp2_with fail
            refine CC.out.mono ?_
            intro e w' hs
            rw [show (Value.iface 53 (.float .f64 (val j))) = vv val del j by unfold vv; rw [hdj]; rfl] at hs
            obtain ⟨rfl, t', S', ks', ix', g1, g2, g3, g4, g5, g6, g7⟩ := FIN.out W1 UW.out e w' hs
            have G := Lib.hid (⟨g1, g2, g3, g4, g5, g6, g7⟩ : _ ∧ _ ∧ _ ∧ _ ∧ _ ∧ _ ∧ _)
            clear hs g1 g2 g3 g4 g5 g6 g7
            go_wp2
            go_roundw
            case rel => exact ⟨j + 1, t', S', ks', ix', by omega, by go_num, G.out.1, G.out.2.1, G.out.2.2.1, G.out.2.2.2.1, G.out.2.2.2.2.1, G.out.2.2.2.2.2.1, G.out.2.2.2.2.2.2⟩
            case measure => simp [intOf]; omega
        · obtain rfl : j = n := by omega
          obtain ⟨w9, rfl⟩ : ∃ w9 : World, w9 = wr := ⟨_, rfl⟩
          have hwsum : IntKind.i64.wrap ((j : Int) + (nP : Int)) = (j : Int) + (nP : Int) := IntWalk.i64_in _ (by omega)
          clear hlt
          go_wp2_with fail
          go_loopw [13] (fun iv wr => ∃ i : Nat, i ≤ j + nP ∧ iv = .int .i64 i ∧ Upd (fun _ => False) w9 wr) (fun iv _ => j + nP - (intOf iv).toNat)
          case atStart => exact ⟨0, Nat.zero_le _, rfl, Upd.refl _ _⟩
          case round =>
            obtain ⟨i, hi, rfl, hu10⟩ := hrel
            have U10 := Lib.hid hu10
            clear hu10
            have V10 := Lib.hid (U9.out.trans U10.out)
            have V9 := Lib.hid U9.out
            by_cases hlt : i < j + nP
            · by_cases hij : i < j
              · obtain ⟨b1, off1, rfl, hc1⟩ := (H1.out.upd V10.out (fun c h => h.elim)).one (j := i) (by omega)
                have i1 : (0 : Int) ≤ (i : Int) := by omega
                have i2 : (i : Int) < (nK : Int) := by omega
                have hij2 : (i : Int) < (j : Int) := by omega
                obtain ⟨p, hpk⟩ : ∃ p, key i = p := ⟨_, rfl⟩
                rw [hpk] at hc1
                clear hpk
                have C1 := last_str (some ⟨b1, off1, none⟩) nK c1 j key p wr nk lK (H1.out.upd V10.out (fun c h => h.elim)).cells
                have C2 := get_field (some ⟨La, 0, none⟩) t S ks ix p wr (R9.out.nv (vv_nv val del) _) (T9.out.upd U10.out (fun _ _ h => h))
                rw [hTT.out] at C2
                have hR := R9.out.str p
                obtain ⟨hv0, hv0e⟩ : ∃ v, holds S (.str p) = v := ⟨_, rfl⟩
                rw [hv0e] at C2 hR
                clear hv0e
                cases hl : Last.last seqk key p j with
                | none =>
                  rw [hl] at hR
                  rw [show lk seqk key p j = -1 by unfold lk; rw [hl]] at C1
                  obtain rfl : hv0 = .iface 69 (.int .u8 0) := hR
                  have CC1 := Lib.hid C1
                  have CC2 := Lib.hid C2
                  clear C1 C2 hl
                  go_wp2_with fail
                  refine CC1.out.mono ?_
                  rintro e w' ⟨rfl, rfl⟩
                  go_wp2_with fail
                  refine CC2.out.mono ?_
                  rintro e w11 ⟨rfl, hu11⟩
                  have U11 := Lib.hid (U10.out.trans hu11)
                  clear hu11 CC1 CC2
                  go_wp2_with fail
                  refine (nil_type _).mono ?_
                  rintro e w' ⟨rfl, rfl⟩
                  go_wp2
                  go_roundw
                  case rel => exact ⟨i + 1, by omega, by go_num, U11.out⟩
                  case measure => simp [intOf]; omega
                | some m =>
                  have hm : m < j := Last.last_lt _ hl
                  rw [hl] at hR
                  rw [show lk seqk key p j = (m : Int) by unfold lk; rw [hl]] at C1
                  have hR2 : hv0 = vv val del m := hR
                  have m1 : (0 : Int) ≤ (m : Int) := by omega
                  have m2 : (m : Int) < (nD : Int) := by omega
                  have m3 : (m : Int) < (nV : Int) := by omega
                  have m4 : ¬ (m : Int) < 0 := by omega
                  have CC1 := Lib.hid C1
                  clear C1 hR hl
                  go_wp2_with fail
                  refine CC1.out.mono ?_
                  rintro e w' ⟨rfl, rfl⟩
                  cases hdm : del m with
                  | true =>
                    obtain rfl : hv0 = .iface 69 (.int .u8 0) := by rw [hR2]; unfold vv; rw [hdm]; rfl
                    have CC2 := Lib.hid C2
                    clear C2 hR2
                    go_wp2_with fail
                    refine CC2.out.mono ?_
                    rintro e w11 ⟨rfl, hu11⟩
                    have U11 := Lib.hid (U10.out.trans hu11)
                    clear hu11 CC1 CC2
                    obtain ⟨b3, off3, rfl, hc3⟩ := (H3.out.upd (V9.out.trans U11.out) (fun c h => h.elim)).one (j := m) (by omega)
                    rw [hdm] at hc3
                    go_wp2_with fail
                    refine (nil_type _).mono ?_
                    rintro e w' ⟨rfl, rfl⟩
                    go_wp2
                    go_roundw
                    case rel => exact ⟨i + 1, by omega, by go_num, U11.out⟩
                    case measure => simp [intOf]; omega
                  | false =>
                    obtain rfl : hv0 = numv (val m) := by rw [hR2]; unfold vv; rw [hdm]; rfl
                    have CC2 := Lib.hid C2
                    clear C2 hR2
                    go_wp2_with fail
                    refine CC2.out.mono ?_
                    rintro e w11 ⟨rfl, hu11⟩
                    have U11 := Lib.hid (U10.out.trans hu11)
                    clear hu11 CC1 CC2
                    obtain ⟨b3, off3, rfl, hc3⟩ := (H3.out.upd (V9.out.trans U11.out) (fun c h => h.elim)).one (j := m) (by omega)
                    obtain ⟨b2, off2, rfl, hc2⟩ := (H2.out.upd (V9.out.trans U11.out) (fun c h => h.elim)).one (j := m) (by omega)
                    rw [hdm] at hc3
                    go_wp2_with fail
                    refine (raw_equal _ (val m) _ (SO.out m hm hdm)).mono ?_
                    rintro e w' ⟨rfl, rfl⟩
                    go_wp2
                    go_roundw
                    case rel => exact ⟨i + 1, by omega, by go_num, U11.out⟩
                    case measure => simp [intOf]; omega
              · obtain ⟨b4, off4, rfl, hc4⟩ := (H4.out.upd V10.out (fun c h => h.elim)).one (j := i - j) (by omega)
                have i0 : IntKind.i64.wrap ((i : Int) - (j : Int)) = ((i - j : Nat) : Int) := by rw [IntWalk.i64_in _ (by omega)]; omega
                have i1 : (0 : Int) ≤ ((i - j : Nat) : Int) := by omega
                have i2 : ((i - j : Nat) : Int) < (nP : Int) := by omega
                have hij2 : ¬ (i : Int) < (j : Int) := by omega
                obtain ⟨p, hpk⟩ : ∃ p, pr (i - j) = p := ⟨_, rfl⟩
                rw [hpk] at hc4
                clear hpk
                have C1 := last_str a1 nK c1 j key p wr nk lK (H1.out.upd V10.out (fun c h => h.elim)).cells
                have C2 := get_field (some ⟨La, 0, none⟩) t S ks ix p wr (R9.out.nv (vv_nv val del) _) (T9.out.upd U10.out (fun _ _ h => h))
                rw [hTT.out] at C2
                have hR := R9.out.str p
                obtain ⟨hv0, hv0e⟩ : ∃ v, holds S (.str p) = v := ⟨_, rfl⟩
                rw [hv0e] at C2 hR
                clear hv0e
                cases hl : Last.last seqk key p j with
                | none =>
                  rw [hl] at hR
                  rw [show lk seqk key p j = -1 by unfold lk; rw [hl]] at C1
                  obtain rfl : hv0 = .iface 69 (.int .u8 0) := hR
                  have CC1 := Lib.hid C1
                  have CC2 := Lib.hid C2
                  clear C1 C2 hl
                  go_wp2_with fail
                  refine CC1.out.mono ?_
                  rintro e w' ⟨rfl, rfl⟩
                  go_wp2_with fail
                  refine CC2.out.mono ?_
                  rintro e w11 ⟨rfl, hu11⟩
                  have U11 := Lib.hid (U10.out.trans hu11)
                  clear hu11 CC1 CC2
                  go_wp2_with fail
                  refine (nil_type _).mono ?_
                  rintro e w' ⟨rfl, rfl⟩
                  go_wp2
                  go_roundw
                  case rel => exact ⟨i + 1, by omega, by go_num, U11.out⟩
                  case measure => simp [intOf]; omega
                | some m =>
                  have hm : m < j := Last.last_lt _ hl
                  rw [hl] at hR
                  rw [show lk seqk key p j = (m : Int) by unfold lk; rw [hl]] at C1
                  have hR2 : hv0 = vv val del m := hR
                  have m1 : (0 : Int) ≤ (m : Int) := by omega
                  have m2 : (m : Int) < (nD : Int) := by omega
                  have m3 : (m : Int) < (nV : Int) := by omega
                  have m4 : ¬ (m : Int) < 0 := by omega
                  have CC1 := Lib.hid C1
                  clear C1 hR hl
                  go_wp2_with fail
                  refine CC1.out.mono ?_
                  rintro e w' ⟨rfl, rfl⟩
                  cases hdm : del m with
                  | true =>
                    obtain rfl : hv0 = .iface 69 (.int .u8 0) := by rw [hR2]; unfold vv; rw [hdm]; rfl
                    have CC2 := Lib.hid C2
                    clear C2 hR2
                    go_wp2_with fail
                    refine CC2.out.mono ?_
                    rintro e w11 ⟨rfl, hu11⟩
                    have U11 := Lib.hid (U10.out.trans hu11)
                    clear hu11 CC1 CC2
                    obtain ⟨b3, off3, rfl, hc3⟩ := (H3.out.upd (V9.out.trans U11.out) (fun c h => h.elim)).one (j := m) (by omega)
                    rw [hdm] at hc3
                    go_wp2_with fail
                    refine (nil_type _).mono ?_
                    rintro e w' ⟨rfl, rfl⟩
                    go_wp2
                    go_roundw
                    case rel => exact ⟨i + 1, by omega, by go_num, U11.out⟩
                    case measure => simp [intOf]; omega
                  | false =>
                    obtain rfl : hv0 = numv (val m) := by rw [hR2]; unfold vv; rw [hdm]; rfl
                    have CC2 := Lib.hid C2
                    clear C2 hR2
                    go_wp2_with fail
                    refine CC2.out.mono ?_
                    rintro e w11 ⟨rfl, hu11⟩
                    have U11 := Lib.hid (U10.out.trans hu11)
                    clear hu11 CC1 CC2
                    obtain ⟨b3, off3, rfl, hc3⟩ := (H3.out.upd (V9.out.trans U11.out) (fun c h => h.elim)).one (j := m) (by omega)
                    obtain ⟨b2, off2, rfl, hc2⟩ := (H2.out.upd (V9.out.trans U11.out) (fun c h => h.elim)).one (j := m) (by omega)
                    rw [hdm] at hc3
                    go_wp2_with fail
                    refine (raw_equal _ (val m) _ (SO.out m hm hdm)).mono ?_
                    rintro e w' ⟨rfl, rfl⟩
                    go_wp2
                    go_roundw
                    case rel => exact ⟨i + 1, by omega, by go_num, U11.out⟩
                    case measure => simp [intOf]; omega
            · obtain rfl : i = j + nP := by omega
              go_wp2
              go_ret
              exact ⟨rfl, ((U6.out.trans U9.out).trans U10.out).below (Nat.le_refl _) (fun _ h => h.elim)⟩

set_option maxHeartbeats 1600000 in
theorem fld_long (aK aV aD aP : Option Addr) (nK cK nV cV nD cD nP cP : Nat) (key pr : Nat → ByteArray) (w : World) (hk : Cells w aK nK fun j => .string (key j)) (hp : Cells w aP nP fun j => .string (pr j)) (h0 : nK ≤ 9223372036854775807) (h1 : nV ≤ 9223372036854775807) (h2 : nD ≤ 9223372036854775807) (h3 : nP ≤ 9223372036854775807)
    (hl : ¬ (nK ≤ 4096 ∧ nV ≤ 4096 ∧ nD ≤ 4096 ∧ nP ≤ 4096)) :
    Calls Tryz.prog 5 #[.slice aK nK cK, .slice aV nV cV, .slice aD nD cD, .slice aP nP cP] w (Good w) := by
  have HK := Lib.hid hk
  have HP := Lib.hid hp
  clear hk hp
  go_enter Tryz.func5, Tryz.ntmps5
  go_wp2_with fail
  refine (guard_fld aK nK cK aV nV cV aD nD cD aP nP cP key pr _ h0 h1 h2 h3 HK.out HP.out).mono ?_
  rintro e w' ⟨b, rfl, rfl⟩
  cases b with
  | false =>
    go_wp2
    go_ret
    exact ⟨rfl, Below.refl _ _⟩
  | true =>
    by_cases l0 : nK ≤ 4096
    case neg =>
      go_wp2
      all_goals
        go_ret
        exact ⟨rfl, Below.refl _ _⟩
    by_cases l1 : nV ≤ 4096
    case neg =>
      go_wp2
      all_goals
        go_ret
        exact ⟨rfl, Below.refl _ _⟩
    by_cases l2 : nD ≤ 4096
    case neg =>
      go_wp2
      all_goals
        go_ret
        exact ⟨rfl, Below.refl _ _⟩
    have l3 : ¬ nP ≤ 4096 := fun h => hl ⟨l0, l1, l2, h⟩
    clear hl
    go_wp2
    all_goals
      go_ret
      exact ⟨rfl, Below.refl _ _⟩
end Go.Proofs.YtlmadbgpllokfaaGreatFmt
