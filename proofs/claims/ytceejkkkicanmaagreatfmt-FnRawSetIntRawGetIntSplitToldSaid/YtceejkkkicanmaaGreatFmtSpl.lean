/- FnRawSetIntRawGetIntSplit: walked. -/
import Derived.Test.YtceejkkkicanmaaGreatFmtSpb
namespace Go.Proofs.YtceejkkkicanmaaGreatFmt
open Go.RowKit Go.Mapy Go.Tbl
set_option maxRecDepth 100000

set_option maxHeartbeats 3200000 in
theorem spl_in (aK aV aD aP : Option Addr) (nK cK nV cV nD cD nP cP : Nat) (key : Nat → Int) (val : Nat → Nat) (del : Nat → Bool) (pr : Nat → Int) (w : World) (lK : nK ≤ 4096) (lV : nV ≤ 4096) (lD : nD ≤ 4096) (lP : nP ≤ 4096)
    (wK : ∀ j, j < nK → -9223372036854775808 ≤ key j ∧ key j ≤ 9223372036854775807) (wP : ∀ j, j < nP → -9223372036854775808 ≤ pr j ∧ pr j ≤ 9223372036854775807)
    (hk : Cells w aK nK fun j => .int .i64 (key j)) (hv : Cells w aV nV fun j => .float .f64 (val j)) (hd : Cells w aD nD fun j => .bool (del j)) (hp : Cells w aP nP fun j => .int .i64 (pr j)) :
    Calls Tryz.prog 3 #[.slice aK nK cK, .slice aV nV cV, .slice aD nD cD, .slice aP nP cP] w (Good w) := by
  have HK := Lib.hid hk
  have HV := Lib.hid hv
  have HD := Lib.hid hd
  have HP := Lib.hid hp
  have WK := Lib.hid wK
  have WP := Lib.hid wP
  clear hk hv hd hp wK wP
  go_enter Tryz.func3, Tryz.ntmps3
  go_wp2_with fail
  refine (guard_spl aK aV aD aP nK cK nV cV nD cD nP cP _ (by omega) (by omega) (by omega) (by omega)).mono ?_
  rintro e w' ⟨b, rfl, rfl⟩
  cases b with
  | false =>
    go_wp2
    go_ret
    exact ⟨rfl, Below.refl _ _⟩
  | true =>
    have hbig : 8 * nK + 8 * nV + nD + 8 * nP ≤ 1048576 := by omega
    go_wp2_with fail
    refine (min_three nK nV nD _).mono ?_
    rintro e w' ⟨rfl, rfl⟩
    obtain ⟨n, hn⟩ : ∃ n, n = min nK (min nV nD) := ⟨_, rfl⟩
    have nk : n ≤ nK := by omega
    have nv : n ≤ nV := by omega
    have nd : n ≤ nD := by omega
    rw [← hn]
    clear hn
    go_wp2_with fail
    refine (pad_script aK aV aD nK cK nV cV nD cD n key val del _ nk nv nd lK lV HK.out HV.out HD.out).mono ?_
    rintro e w1 ⟨b, rfl, hu1, hb1⟩
    have U1 := Lib.hid hu1
    have B1 := Lib.hid hb1
    clear hu1 hb1
    cases b with
    | false =>
      go_wp2
      go_ret
      exact ⟨rfl, U1.out.below (Nat.le_refl _) (fun _ h => h.elim)⟩
    | true =>
      have B1x := Lib.hid (B1.out rfl)
      clear B1
      have KO := Lib.hid B1x.out.1
      have SO := Lib.hid B1x.out.2
      clear B1x hbig
      go_wp2_with fail
      refine (cloneInt aK nK cK key _ (by omega) (HK.out.upd U1.out)).mono ?_
      rintro e w3 ⟨a1, c1, rfl, hu3, h1⟩
      have U3 := Lib.hid (U1.out.trans hu3)
      have H1 := Lib.hid (Held.of_new h1)
      clear hu3 h1 U1
      go_wp2_with fail
      refine (cloneFlo aV nV cV val _ (by omega) (HV.out.upd U3.out)).mono ?_
      rintro e w4 ⟨a2, c2, rfl, hu4, h2⟩
      have U4 := Lib.hid (U3.out.trans hu4)
      have H1 := Lib.hid ((H1.out.upd hu4 (fun c h => h.elim)).mono hu4.size)
      have H2 := Lib.hid (Held.of_new h2)
      clear hu4 h2 U3
      go_wp2_with fail
      refine (cloneBool aD nD cD del _ (by omega) (HD.out.upd U4.out)).mono ?_
      rintro e w5 ⟨a3, c3, rfl, hu5, h3⟩
      have U5 := Lib.hid (U4.out.trans hu5)
      have H1 := Lib.hid ((H1.out.upd hu5 (fun c h => h.elim)).mono hu5.size)
      have H2 := Lib.hid ((H2.out.upd hu5 (fun c h => h.elim)).mono hu5.size)
      have H3 := Lib.hid (Held.of_new h3)
      clear hu5 h3 U4
      go_wp2_with fail
      refine (cloneInt aP nP cP pr _ (by omega) (HP.out.upd U5.out)).mono ?_
      rintro e w6 ⟨a4, c4, rfl, hu6, h4⟩
      have U6 := Lib.hid (U5.out.trans hu6)
      have H1 := Lib.hid ((H1.out.upd hu6 (fun c h => h.elim)).mono hu6.size)
      have H2 := Lib.hid ((H2.out.upd hu6 (fun c h => h.elim)).mono hu6.size)
      have H3 := Lib.hid ((H3.out.upd hu6 (fun c h => h.elim)).mono hu6.size)
      have H4 := Lib.hid (Held.of_new h4)
      clear hu6 h4 U5 HK HV HD HP
      go_wp2_with fail
      refine (new_ls _).mono ?_
      rintro e w7 ⟨La, rfl, hu7⟩
      have U7 := Lib.hid hu7
      clear hu7
      go_wp2_with fail
      refine (new_table _ _).mono ?_
      rintro e w8 ⟨T, A, m, rfl, hn8⟩
      have U8 := Lib.hid (U7.out.trans hn8.upd)
      have hfp := new_fp hn8
      have FP := Lib.hid (show ∀ c, Fp ⟨T, .slice (some ⟨A, 0, none⟩) 0 32, none, m, .slice none 0 0, none⟩ c → w6.heap.size ≤ c from fun c h => Nat.le_trans U7.out.size (hfp c h))
      have TB := Lib.hid (Tab.new hn8)
      clear hn8 hfp U7
      go_wp2_with fail
      go_loopw [12] (fun iv wr => ∃ (j : Nat) (t : Tbs) (S : St) (ks : List Value) (ix : List MapEntry), j ≤ n ∧ iv = .int .i64 j ∧ t.T = T ∧ Upd (fun _ => False) w6 wr ∧ (∀ c, Fp t c → w6.heap.size ≤ c) ∧ Tab wr t nilw S ks ix ∧ RanA key val del j S ∧ S.arr.length ≤ 65536 ∧ ks.length ≤ j) (fun iv _ => n - (intOf iv).toNat)
      case atStart => exact ⟨0, _, ⟨[], [], []⟩, [], [], Nat.zero_le _, rfl, rfl, U8.out, FP.out, TB.out, ranA_zero _ _ _, by simp, by simp⟩
      case round =>
        obtain ⟨j, t, S, ks, ix, hj, rfl, hT, hu9, hf9, ht9, hr9, hl9, hk9⟩ := hrel
        have U9 := Lib.hid hu9
        have F9 := Lib.hid hf9
        have T9 := Lib.hid ht9
        have R9 := Lib.hid hr9
        have hTT := Lib.hid hT
        clear hu9 hf9 ht9 hr9 hT U8 FP TB
        by_cases hlt : j < n
        · obtain ⟨b1, off1, rfl, hc1⟩ := (H1.out.upd U9.out (fun c h => h.elim)).one (j := j) (by omega)
          obtain ⟨b3, off3, rfl, hc3⟩ := (H3.out.upd U9.out (fun c h => h.elim)).one (j := j) (by omega)
          have i1 : (0 : Int) ≤ (j : Int) := by omega
          have i2 : (j : Int) < (nK : Int) := by omega
          have i3 : (j : Int) < (nV : Int) := by omega
          have i4 : (j : Int) < (nD : Int) := by omega
          have CW := Lib.hid (show ∀ wx : World, Upd (fun _ => False) wr wx → Calls Tryz.prog 15 #[.pointer (some ⟨La, 0, none⟩), .pointer (some ⟨T, 0, none⟩), .int .i64 (key j), vv val del j] wx (SetAny t nilw S ks (key j) (vv val del j) wx) from fun wx hux => by
            have C := l_set_any (some ⟨La, 0, none⟩) t nilw S ks ix (key j) (vv val del j) (del j) wx (vv_val val del j) (KO.out j hlt) (by omega) hl9 (T9.out.upd hux (fun _ _ h => h))
            rw [hTT.out] at C
            exact C)
          have fin : ∀ wx : World, Upd (fun _ => False) wr wx → ∀ e w', SetAny t nilw S ks (key j) (vv val del j) wx e w' → e = .returned (.tuple #[]) ∧ ∃ (t' : Tbs) (S' : St) (ks' : List Value) (ix' : List MapEntry), t'.T = T ∧ Upd (fun _ => False) w6 w' ∧ (∀ c, Fp t' c → w6.heap.size ≤ c) ∧ Tab w' t' nilw S' ks' ix' ∧ RanA key val del (j + 1) S' ∧ S'.arr.length ≤ 65536 ∧ ks'.length ≤ j + 1 := fun wx hux e w' ⟨he, t', S', ks', ix', h1, h2, h3, h4, h5, h6, h7⟩ =>
            ⟨he, t', S', ks', ix', h1.trans hTT.out, (U9.out.trans hux).trans_new h2 F9.out, fun c hc => by
              rcases h3 c hc with h | h
              · exact F9.out c h
              · have := U9.out.size; have := hux.size; omega, h4, R9.out.next h5, by omega, by omega⟩
          have FIN := Lib.hid fin
          clear fin
          cases hdj : del j with
          | true =>
            rw [hdj] at hc3
            have CC := Lib.hid (CW.out wr (Upd.refl _ _))
            rw [show vv val del j = .iface 36 (.int .u8 0) by unfold vv; rw [hdj]; rfl] at CC
            clear CW
            go_wp2_with fail
            refine CC.out.mono ?_
            intro e w' hs
            rw [show (Value.iface 36 (.int .u8 0)) = vv val del j by unfold vv; rw [hdj]; rfl] at hs
            obtain ⟨rfl, t', S', ks', ix', g1, g2, g3, g4, g5, g6, g7⟩ := FIN.out wr (Upd.refl _ _) e w' hs
            have G := Lib.hid (⟨g1, g2, g3, g4, g5, g6, g7⟩ : _ ∧ _ ∧ _ ∧ _ ∧ _ ∧ _ ∧ _)
            clear hs g1 g2 g3 g4 g5 g6 g7
            go_wp2
            go_roundw
            case rel => exact ⟨j + 1, t', S', ks', ix', by omega, by go_num, G.out.1, G.out.2.1, G.out.2.2.1, G.out.2.2.2.1, G.out.2.2.2.2.1, G.out.2.2.2.2.2.1, G.out.2.2.2.2.2.2⟩
            case measure => simp [intOf]; omega
          | false =>
            rw [hdj] at hc3
            obtain ⟨b2, off2, rfl, hc2⟩ := (H2.out.upd U9.out (fun c h => h.elim)).one (j := j) (by omega)
            go_wp2_with fail
            refine wp_region_tail_at 11 (by kernel_rfl) (by kernel_rfl) (fun W1 hW1 => ?_)
            have UW := Lib.hid (show Upd (fun _ => False) wr W1 by rw [hW1]; exact (Upd.refl _ _).drew)
            have hc1 : W1.cell? ⟨b1, off1 + j, none⟩ = some (.int .i64 (key j)) := by rw [hW1]; exact hc1
            have hc2 : W1.cell? ⟨b2, off2 + j, none⟩ = some (.float .f64 (val j)) := by rw [hW1]; exact hc2
            have CC := Lib.hid (CW.out W1 UW.out)
            rw [show vv val del j = .iface 38 (.float .f64 (val j)) by unfold vv; rw [hdj]; rfl] at CC
            clear CW hW1
            simp only [List.take_succ_cons, List.take_zero, List.drop_succ_cons, List.drop_zero]
            repeat still_step
            refine wpStill_nil ?_
            go_wp2_with fail
            refine CC.out.mono ?_
            intro e w' hs
            rw [show (Value.iface 38 (.float .f64 (val j))) = vv val del j by unfold vv; rw [hdj]; rfl] at hs
            obtain ⟨rfl, t', S', ks', ix', g1, g2, g3, g4, g5, g6, g7⟩ := FIN.out W1 UW.out e w' hs
            have G := Lib.hid (⟨g1, g2, g3, g4, g5, g6, g7⟩ : _ ∧ _ ∧ _ ∧ _ ∧ _ ∧ _ ∧ _)
            clear hs g1 g2 g3 g4 g5 g6 g7
            go_wp2
            go_roundw
            case rel => exact ⟨j + 1, t', S', ks', ix', by omega, by go_num, G.out.1, G.out.2.1, G.out.2.2.1, G.out.2.2.2.1, G.out.2.2.2.2.1, G.out.2.2.2.2.2.1, G.out.2.2.2.2.2.2⟩
            case measure => simp [intOf]; omega
        · obtain rfl : j = n := by omega
          obtain ⟨w9, rfl⟩ : ∃ w9 : World, w9 = wr := ⟨_, rfl⟩
          have hwsum : IntKind.i64.wrap ((j : Int) + (nP : Int)) = (j : Int) + (nP : Int) := IntWalk.i64_in _ (by omega)
          clear hlt
          go_wp2_with fail
          go_loopw [13] (fun iv wr => ∃ i : Nat, i ≤ j + nP ∧ iv = .int .i64 i ∧ Upd (fun _ => False) w9 wr) (fun iv _ => j + nP - (intOf iv).toNat)
          case atStart => exact ⟨0, Nat.zero_le _, rfl, Upd.refl _ _⟩
          case round =>
            obtain ⟨i, hi, rfl, hu10⟩ := hrel
            have U10 := Lib.hid hu10
            clear hu10
            have V10 := Lib.hid (U9.out.trans U10.out)
            by_cases hlt : i < j + nP
            · by_cases hij : i < j
              · obtain ⟨b1, off1, rfl, hc1⟩ := (H1.out.upd V10.out (fun c h => h.elim)).one (j := i) (by omega)
                have i1 : (0 : Int) ≤ (i : Int) := by omega
                have i2 : (i : Int) < (nK : Int) := by omega
                have hij2 : (i : Int) < (j : Int) := by omega
                obtain ⟨p, hpk⟩ : ∃ p, key i = p := ⟨_, rfl⟩
                have hpw := Lib.hid (show -9223372036854775808 ≤ p ∧ p ≤ 9223372036854775807 by rw [← hpk]; exact WK.out i (by omega))
                rw [hpk] at hc1
                clear hpk
                have C1 := last_int (some ⟨b1, off1, none⟩) nK c1 j key p wr nk lK (H1.out.upd V10.out (fun c h => h.elim)).cells
                have C2 := l_get_int (some ⟨La, 0, none⟩) t nilw S ks ix p wr hl9 hpw.out (T9.out.upd U10.out (fun _ _ h => h))
                rw [hTT.out] at C2
                by_cases hp1 : 1 ≤ p
                · by_cases hp2 : p < 67108864
                  · have hR := R9.out.read p hp1 hp2
                    cases hl : Last.last (fun a b => decide (a = b)) key p j with
                    | none =>
                      rw [hl] at hR
                      rw [show li key p j = -1 by unfold li; rw [hl]] at C1
                      rw [show got S p = .iface 36 (.int .u8 0) from hR] at C2
                      clear hR hl
                      have CC1 := Lib.hid C1
                      have CC2 := Lib.hid C2
                      clear C1 C2
                      go_wp2_with fail
                      refine CC1.out.mono ?_
                      rintro e w' ⟨rfl, rfl⟩
                      go_wp2_with fail
                      refine CC2.out.mono ?_
                      rintro e w11 ⟨rfl, rfl⟩
                      clear CC1 CC2
                      go_wp2_with fail
                      refine (nil_type _).mono ?_
                      rintro e w' ⟨rfl, rfl⟩
                      go_wp2
                      go_roundw
                      case rel => exact ⟨i + 1, by omega, by go_num, U10.out⟩
                      case measure => simp [intOf]; omega
                    | some m =>
                      have hm : m < j := Last.last_lt _ hl
                      rw [hl] at hR
                      rw [show li key p j = (m : Int) by unfold li; rw [hl]] at C1
                      have hR2 : got S p = vv val del m := hR
                      rw [hR2] at C2
                      have m1 : (0 : Int) ≤ (m : Int) := by omega
                      have m2 : (m : Int) < (nD : Int) := by omega
                      have m3 : (m : Int) < (nV : Int) := by omega
                      have m4 : ¬ (m : Int) < 0 := by omega
                      clear hR hR2 hl
                      obtain ⟨b3, off3, rfl, hc3⟩ := (H3.out.upd V10.out (fun c h => h.elim)).one (j := m) (by omega)
                      cases hdm : del m with
                      | true =>
                        rw [hdm] at hc3
                        rw [show vv val del m = .iface 36 (.int .u8 0) by unfold vv; rw [hdm]; rfl] at C2
                        have CC1 := Lib.hid C1
                        have CC2 := Lib.hid C2
                        clear C1 C2
                        go_wp2_with fail
                        refine CC1.out.mono ?_
                        rintro e w' ⟨rfl, rfl⟩
                        go_wp2_with fail
                        refine CC2.out.mono ?_
                        rintro e w11 ⟨rfl, rfl⟩
                        clear CC1 CC2
                        go_wp2_with fail
                        refine (nil_type _).mono ?_
                        rintro e w' ⟨rfl, rfl⟩
                        go_wp2
                        go_roundw
                        case rel => exact ⟨i + 1, by omega, by go_num, U10.out⟩
                        case measure => simp [intOf]; omega
                      | false =>
                        rw [hdm] at hc3
                        rw [show vv val del m = numv (val m) by unfold vv; rw [hdm]; rfl] at C2
                        obtain ⟨b2, off2, rfl, hc2⟩ := (H2.out.upd V10.out (fun c h => h.elim)).one (j := m) (by omega)
                        have CC1 := Lib.hid C1
                        have CC2 := Lib.hid C2
                        clear C1 C2
                        go_wp2_with fail
                        refine CC1.out.mono ?_
                        rintro e w' ⟨rfl, rfl⟩
                        go_wp2_with fail
                        refine CC2.out.mono ?_
                        rintro e w11 ⟨rfl, rfl⟩
                        clear CC1 CC2
                        go_wp2_with fail
                        refine (raw_equal _ (val m) _ (SO.out m hm hdm)).mono ?_
                        rintro e w' ⟨rfl, rfl⟩
                        go_wp2
                        go_roundw
                        case rel => exact ⟨i + 1, by omega, by go_num, U10.out⟩
                        case measure => simp [intOf]; omega
                  · rw [show got S p = .iface 36 (.int .u8 0) by unfold got; rw [if_neg (by omega)]; rfl] at C2
                    obtain ⟨z, hz⟩ : ∃ z, li key p j = z := ⟨_, rfl⟩
                    rw [hz] at C1
                    clear hz
                    have CC1 := Lib.hid C1
                    have CC2 := Lib.hid C2
                    clear C1 C2
                    go_wp2_with fail
                    refine CC1.out.mono ?_
                    rintro e w' ⟨rfl, rfl⟩
                    go_wp2_with fail
                    refine CC2.out.mono ?_
                    rintro e w11 ⟨rfl, rfl⟩
                    clear CC1 CC2
                    go_wp2_with fail
                    refine (nil_type _).mono ?_
                    rintro e w' ⟨rfl, rfl⟩
                    go_wp2
                    go_roundw
                    case rel => exact ⟨i + 1, by omega, by go_num, U10.out⟩
                    case measure => simp [intOf]; omega
                · rw [show got S p = .iface 36 (.int .u8 0) by unfold got; rw [if_neg (by omega)]; rfl] at C2
                  obtain ⟨z, hz⟩ : ∃ z, li key p j = z := ⟨_, rfl⟩
                  rw [hz] at C1
                  clear hz
                  have CC1 := Lib.hid C1
                  have CC2 := Lib.hid C2
                  clear C1 C2
                  go_wp2_with fail
                  refine CC1.out.mono ?_
                  rintro e w' ⟨rfl, rfl⟩
                  go_wp2_with fail
                  refine CC2.out.mono ?_
                  rintro e w11 ⟨rfl, rfl⟩
                  clear CC1 CC2
                  go_wp2_with fail
                  refine (nil_type _).mono ?_
                  rintro e w' ⟨rfl, rfl⟩
                  go_wp2
                  go_roundw
                  case rel => exact ⟨i + 1, by omega, by go_num, U10.out⟩
                  case measure => simp [intOf]; omega
              · obtain ⟨b4, off4, rfl, hc4⟩ := (H4.out.upd V10.out (fun c h => h.elim)).one (j := i - j) (by omega)
                have i0 : IntKind.i64.wrap ((i : Int) - (j : Int)) = ((i - j : Nat) : Int) := by rw [IntWalk.i64_in _ (by omega)]; omega
                have i1 : (0 : Int) ≤ ((i - j : Nat) : Int) := by omega
                have i2 : ((i - j : Nat) : Int) < (nP : Int) := by omega
                have hij2 : ¬ (i : Int) < (j : Int) := by omega
                obtain ⟨p, hpk⟩ : ∃ p, pr (i - j) = p := ⟨_, rfl⟩
                have hpw := Lib.hid (show -9223372036854775808 ≤ p ∧ p ≤ 9223372036854775807 by rw [← hpk]; exact WP.out (i - j) (by omega))
                rw [hpk] at hc4
                clear hpk
                have C1 := last_int a1 nK c1 j key p wr nk lK (H1.out.upd V10.out (fun c h => h.elim)).cells
                have C2 := l_get_int (some ⟨La, 0, none⟩) t nilw S ks ix p wr hl9 hpw.out (T9.out.upd U10.out (fun _ _ h => h))
                rw [hTT.out] at C2
                by_cases hp1 : 1 ≤ p
                · by_cases hp2 : p < 67108864
                  · have hR := R9.out.read p hp1 hp2
                    cases hl : Last.last (fun a b => decide (a = b)) key p j with
                    | none =>
                      rw [hl] at hR
                      rw [show li key p j = -1 by unfold li; rw [hl]] at C1
                      rw [show got S p = .iface 36 (.int .u8 0) from hR] at C2
                      clear hR hl
                      have CC1 := Lib.hid C1
                      have CC2 := Lib.hid C2
                      clear C1 C2
                      go_wp2_with fail
                      refine CC1.out.mono ?_
                      rintro e w' ⟨rfl, rfl⟩
                      go_wp2_with fail
                      refine CC2.out.mono ?_
                      rintro e w11 ⟨rfl, rfl⟩
                      clear CC1 CC2
                      go_wp2_with fail
                      refine (nil_type _).mono ?_
                      rintro e w' ⟨rfl, rfl⟩
                      go_wp2
                      go_roundw
                      case rel => exact ⟨i + 1, by omega, by go_num, U10.out⟩
                      case measure => simp [intOf]; omega
                    | some m =>
                      have hm : m < j := Last.last_lt _ hl
                      rw [hl] at hR
                      rw [show li key p j = (m : Int) by unfold li; rw [hl]] at C1
                      have hR2 : got S p = vv val del m := hR
                      rw [hR2] at C2
                      have m1 : (0 : Int) ≤ (m : Int) := by omega
                      have m2 : (m : Int) < (nD : Int) := by omega
                      have m3 : (m : Int) < (nV : Int) := by omega
                      have m4 : ¬ (m : Int) < 0 := by omega
                      clear hR hR2 hl
                      obtain ⟨b3, off3, rfl, hc3⟩ := (H3.out.upd V10.out (fun c h => h.elim)).one (j := m) (by omega)
                      cases hdm : del m with
                      | true =>
                        rw [hdm] at hc3
                        rw [show vv val del m = .iface 36 (.int .u8 0) by unfold vv; rw [hdm]; rfl] at C2
                        have CC1 := Lib.hid C1
                        have CC2 := Lib.hid C2
                        clear C1 C2
                        go_wp2_with fail
                        refine CC1.out.mono ?_
                        rintro e w' ⟨rfl, rfl⟩
                        go_wp2_with fail
                        refine CC2.out.mono ?_
                        rintro e w11 ⟨rfl, rfl⟩
                        clear CC1 CC2
                        go_wp2_with fail
                        refine (nil_type _).mono ?_
                        rintro e w' ⟨rfl, rfl⟩
                        go_wp2
                        go_roundw
                        case rel => exact ⟨i + 1, by omega, by go_num, U10.out⟩
                        case measure => simp [intOf]; omega
                      | false =>
                        rw [hdm] at hc3
                        rw [show vv val del m = numv (val m) by unfold vv; rw [hdm]; rfl] at C2
                        obtain ⟨b2, off2, rfl, hc2⟩ := (H2.out.upd V10.out (fun c h => h.elim)).one (j := m) (by omega)
                        have CC1 := Lib.hid C1
                        have CC2 := Lib.hid C2
                        clear C1 C2
                        go_wp2_with fail
                        refine CC1.out.mono ?_
                        rintro e w' ⟨rfl, rfl⟩
                        go_wp2_with fail
                        refine CC2.out.mono ?_
                        rintro e w11 ⟨rfl, rfl⟩
                        clear CC1 CC2
                        go_wp2_with fail
                        refine (raw_equal _ (val m) _ (SO.out m hm hdm)).mono ?_
                        rintro e w' ⟨rfl, rfl⟩
                        go_wp2
                        go_roundw
                        case rel => exact ⟨i + 1, by omega, by go_num, U10.out⟩
                        case measure => simp [intOf]; omega
                  · rw [show got S p = .iface 36 (.int .u8 0) by unfold got; rw [if_neg (by omega)]; rfl] at C2
                    obtain ⟨z, hz⟩ : ∃ z, li key p j = z := ⟨_, rfl⟩
                    rw [hz] at C1
                    clear hz
                    have CC1 := Lib.hid C1
                    have CC2 := Lib.hid C2
                    clear C1 C2
                    go_wp2_with fail
                    refine CC1.out.mono ?_
                    rintro e w' ⟨rfl, rfl⟩
                    go_wp2_with fail
                    refine CC2.out.mono ?_
                    rintro e w11 ⟨rfl, rfl⟩
                    clear CC1 CC2
                    go_wp2_with fail
                    refine (nil_type _).mono ?_
                    rintro e w' ⟨rfl, rfl⟩
                    go_wp2
                    go_roundw
                    case rel => exact ⟨i + 1, by omega, by go_num, U10.out⟩
                    case measure => simp [intOf]; omega
                · rw [show got S p = .iface 36 (.int .u8 0) by unfold got; rw [if_neg (by omega)]; rfl] at C2
                  obtain ⟨z, hz⟩ : ∃ z, li key p j = z := ⟨_, rfl⟩
                  rw [hz] at C1
                  clear hz
                  have CC1 := Lib.hid C1
                  have CC2 := Lib.hid C2
                  clear C1 C2
                  go_wp2_with fail
                  refine CC1.out.mono ?_
                  rintro e w' ⟨rfl, rfl⟩
                  go_wp2_with fail
                  refine CC2.out.mono ?_
                  rintro e w11 ⟨rfl, rfl⟩
                  clear CC1 CC2
                  go_wp2_with fail
                  refine (nil_type _).mono ?_
                  rintro e w' ⟨rfl, rfl⟩
                  go_wp2
                  go_roundw
                  case rel => exact ⟨i + 1, by omega, by go_num, U10.out⟩
                  case measure => simp [intOf]; omega
            · obtain rfl : i = j + nP := by omega
              go_wp2
              go_ret
              exact ⟨rfl, ((U6.out.trans U9.out).trans U10.out).below (Nat.le_refl _) (fun _ h => h.elim)⟩

set_option maxHeartbeats 1600000 in
theorem spl_long (aK aV aD aP : Option Addr) (nK cK nV cV nD cD nP cP : Nat) (w : World) (h0 : nK ≤ 9223372036854775807) (h1 : nV ≤ 9223372036854775807) (h2 : nD ≤ 9223372036854775807) (h3 : nP ≤ 9223372036854775807)
    (hl : ¬ (nK ≤ 4096 ∧ nV ≤ 4096 ∧ nD ≤ 4096 ∧ nP ≤ 4096)) :
    Calls Tryz.prog 3 #[.slice aK nK cK, .slice aV nV cV, .slice aD nD cD, .slice aP nP cP] w (Good w) := by
  go_enter Tryz.func3, Tryz.ntmps3
  go_wp2_with fail
  refine (guard_spl aK aV aD aP nK cK nV cV nD cD nP cP _ h0 h1 h2 h3).mono ?_
  rintro e w' ⟨b, rfl, rfl⟩
  cases b with
  | false =>
    go_wp2
    go_ret
    exact ⟨rfl, Below.refl _ _⟩
  | true =>
    by_cases l0 : nK ≤ 4096
    case neg =>
      go_wp2
      all_goals
        go_ret
        exact ⟨rfl, Below.refl _ _⟩
    by_cases l1 : nV ≤ 4096
    case neg =>
      go_wp2
      all_goals
        go_ret
        exact ⟨rfl, Below.refl _ _⟩
    by_cases l2 : nD ≤ 4096
    case neg =>
      go_wp2
      all_goals
        go_ret
        exact ⟨rfl, Below.refl _ _⟩
    have l3 : ¬ nP ≤ 4096 := fun h => hl ⟨l0, l1, l2, h⟩
    clear hl
    go_wp2
    all_goals
      go_ret
      exact ⟨rfl, Below.refl _ _⟩
end Go.Proofs.YtceejkkkicanmaaGreatFmt
