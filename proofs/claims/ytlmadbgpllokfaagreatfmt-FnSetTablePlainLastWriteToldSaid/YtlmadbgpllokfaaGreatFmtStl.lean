/- FnSetTablePlainLastWrite: walked. -/
import Derived.Test.YtlmadbgpllokfaaGreatFmtStb
import Derived.Deep.DeepCutAuto
namespace Go.Proofs.YtlmadbgpllokfaaGreatFmt
open Go.RowKit Go.Mapy Go.Tbl
set_option maxRecDepth 100000

/-- As the program compares two keys. -/
def kq (q k : Key) : Bool := keq k q
theorem kq_eq (q k : Key) : keq q k = kq q k := keq_comm q k
theorem RanK.at {kf : Nat → Key} {vs : Nat → Value} {n : Nat} {S : St} (h : RanK kf vs n S) (q : Key) : holds S q = match Last.last kq kf q n with | some j => vs j | none => nilw := by
  have e : Last.last keq kf q n = Last.last kq kf q n := Last.last_congr keq (fun i _ => kq_eq q (kf i))
  rw [h, Last.run_last, e]
  cases Last.last kq kf q n <;> rfl

set_option maxHeartbeats 1600000 in
theorem guard_stl (aS : Option Addr) (nS cS : Nat) (aN : Option Addr) (nN cN : Nat) (aT : Option Addr) (nT cT : Nat) (aV : Option Addr) (nV cV : Nat) (aD : Option Addr) (nD cD : Nat) (bS : Option Addr) (mS dS : Nat) (bN : Option Addr) (mN dN : Nat) (bT : Option Addr) (mT dT : Nat) (tf : Nat → ByteArray) (qtf : Nat → ByteArray) (w : World) (h0 : nS ≤ 9223372036854775807) (h1 : nN ≤ 9223372036854775807) (h2 : nT ≤ 9223372036854775807) (h3 : nV ≤ 9223372036854775807) (h4 : nD ≤ 9223372036854775807) (h5 : mS ≤ 9223372036854775807) (h6 : mN ≤ 9223372036854775807) (h7 : mT ≤ 9223372036854775807) (c2 : Cells w aT nT fun j => .string (tf j)) (c7 : Cells w bT mT fun j => .string (qtf j)) :
    Calls Tryz.prog 36 #[.slice aS nS cS, .slice aN nN cN, .slice aT nT cT, .slice aV nV cV, .slice aD nD cD, .slice bS mS dS, .slice bN mN dN, .slice bT mT dT] w (SomeBool w) := by
  have HT := Lib.hid c2
  have KT := Lib.hid c7
  clear c2 c7
  go_enter Tryz.func36, Tryz.ntmps36
  by_cases hc0 : nS ≤ 1048576
  case neg =>
    go_wp2
    all_goals
      go_ret
      exact ⟨_, rfl, rfl⟩
  by_cases hc1 : nN ≤ 1048576
  case neg =>
    go_wp2
    all_goals
      go_ret
      exact ⟨_, rfl, rfl⟩
  by_cases hz1 : nS + nN ≤ 1048576
  case neg =>
    go_wp2
    all_goals
      go_ret
      exact ⟨_, rfl, rfl⟩
  by_cases hc2 : nT ≤ 1048576
  case neg =>
    go_wp2
    all_goals
      go_ret
      exact ⟨_, rfl, rfl⟩
  by_cases hz2 : nS + nN + nT ≤ 1048576
  case neg =>
    go_wp2
    all_goals
      go_ret
      exact ⟨_, rfl, rfl⟩
  go_wp2
  go_loop [17, 18] (fun t i => ∃ (j : Nat) (z : Nat), j ≤ nT ∧ z ≤ 1048576 ∧ i = .int .i64 j ∧ t = .int .i64 z) (fun _ i => nT - (intOf i).toNat)
  case atStart => exact ⟨0, nS + nN + nT, Nat.zero_le _, by omega, rfl, by go_num⟩
  case round =>
    obtain ⟨j, z2, hj, hz, rfl, rfl⟩ := hrel
    by_cases hlt : j < nT
    · obtain ⟨b, off, rfl, hc⟩ := HT.out.one hlt
      have i1 : (0 : Int) ≤ (j : Int) := by omega
      have i2 : (j : Int) < (nT : Int) := by omega
      by_cases hk : (tf j).size ≤ 1048576
      case neg =>
        go_wp2
        all_goals
          go_ret
          exact ⟨_, rfl, rfl⟩
      by_cases hs1 : z2 + (tf j).size ≤ 1048576
      case neg =>
        go_wp2
        all_goals
          go_ret
          exact ⟨_, rfl, rfl⟩
      go_wp2
      go_round
      case rel => exact ⟨j + 1, z2 + (tf j).size, by omega, by omega, by go_num, by go_num⟩
      case measure => simp [intOf]; omega
    · obtain rfl : j = nT := by omega
      by_cases hc3 : nV ≤ 1048576
      case neg =>
        go_wp2
        all_goals
          go_ret
          exact ⟨_, rfl, rfl⟩
      by_cases hz3 : z2 + nV ≤ 1048576
      case neg =>
        go_wp2
        all_goals
          go_ret
          exact ⟨_, rfl, rfl⟩
      by_cases hc4 : nD ≤ 1048576
      case neg =>
        go_wp2
        all_goals
          go_ret
          exact ⟨_, rfl, rfl⟩
      by_cases hz4 : z2 + nV + nD ≤ 1048576
      case neg =>
        go_wp2
        all_goals
          go_ret
          exact ⟨_, rfl, rfl⟩
      by_cases hc5 : mS ≤ 1048576
      case neg =>
        go_wp2
        all_goals
          go_ret
          exact ⟨_, rfl, rfl⟩
      by_cases hz5 : z2 + nV + nD + mS ≤ 1048576
      case neg =>
        go_wp2
        all_goals
          go_ret
          exact ⟨_, rfl, rfl⟩
      by_cases hc6 : mN ≤ 1048576
      case neg =>
        go_wp2
        all_goals
          go_ret
          exact ⟨_, rfl, rfl⟩
      by_cases hz6 : z2 + nV + nD + mS + mN ≤ 1048576
      case neg =>
        go_wp2
        all_goals
          go_ret
          exact ⟨_, rfl, rfl⟩
      by_cases hc7 : mT ≤ 1048576
      case neg =>
        go_wp2
        all_goals
          go_ret
          exact ⟨_, rfl, rfl⟩
      by_cases hz7 : z2 + nV + nD + mS + mN + mT ≤ 1048576
      case neg =>
        go_wp2
        all_goals
          go_ret
          exact ⟨_, rfl, rfl⟩
      go_wp2
      go_loop [17, 19] (fun t i => ∃ (j : Nat) (z : Nat), j ≤ mT ∧ z ≤ 1048576 ∧ i = .int .i64 j ∧ t = .int .i64 z) (fun _ i => mT - (intOf i).toNat)
      case atStart => exact ⟨0, z2 + nV + nD + mS + mN + mT, Nat.zero_le _, by omega, rfl, by go_num⟩
      case round =>
        obtain ⟨j, z7, hj, hz, rfl, rfl⟩ := hrel
        by_cases hlt : j < mT
        · obtain ⟨b, off, rfl, hc⟩ := KT.out.one hlt
          have i1 : (0 : Int) ≤ (j : Int) := by omega
          have i2 : (j : Int) < (mT : Int) := by omega
          by_cases hk : (qtf j).size ≤ 1048576
          case neg =>
            go_wp2
            all_goals
              go_ret
              exact ⟨_, rfl, rfl⟩
          by_cases hs1 : z7 + (qtf j).size ≤ 1048576
          case neg =>
            go_wp2
            all_goals
              go_ret
              exact ⟨_, rfl, rfl⟩
          go_wp2
          go_round
          case rel => exact ⟨j + 1, z7 + (qtf j).size, by omega, by omega, by go_num, by go_num⟩
          case measure => simp [intOf]; omega
        · obtain rfl : j = mT := by omega
          go_wp2
          go_ret
          exact ⟨_, rfl, rfl⟩

set_option maxHeartbeats 25600000 in
theorem stl_in (aS : Option Addr) (nS cS : Nat) (sf : Nat → Bool) (aN : Option Addr) (nN cN : Nat) (xf : Nat → Nat) (aT : Option Addr) (nT cT : Nat) (tf : Nat → ByteArray) (aV : Option Addr) (nV cV : Nat) (val : Nat → Nat) (aD : Option Addr) (nD cD : Nat) (del : Nat → Bool) (bS : Option Addr) (mS dS : Nat) (qsf : Nat → Bool) (bN : Option Addr) (mN dN : Nat) (qnf : Nat → Nat) (bT : Option Addr) (mT dT : Nat) (qtf : Nat → ByteArray) (w : World) (lnS : nS ≤ 4096) (lnN : nN ≤ 4096) (lnT : nT ≤ 4096) (lnV : nV ≤ 4096) (lnD : nD ≤ 4096) (lmS : mS ≤ 4096) (lmN : mN ≤ 4096) (lmT : mT ≤ 4096) (hnS : Cells w aS nS fun j => .bool (sf j)) (hnN : Cells w aN nN fun j => .float .f64 (xf j)) (hnT : Cells w aT nT fun j => .string (tf j)) (hnV : Cells w aV nV fun j => .float .f64 (val j)) (hnD : Cells w aD nD fun j => .bool (del j)) (hmS : Cells w bS mS fun j => .bool (qsf j)) (hmN : Cells w bN mN fun j => .float .f64 (qnf j)) (hmT : Cells w bT mT fun j => .string (qtf j)) :
    Calls Tryz.prog 6 #[.slice aS nS cS, .slice aN nN cN, .slice aT nT cT, .slice aV nV cV, .slice aD nD cD, .slice bS mS dS, .slice bN mN dN, .slice bT mT dT] w (Good w) := by
  have HS := Lib.hid hnS
  have HN := Lib.hid hnN
  have HT := Lib.hid hnT
  have HV := Lib.hid hnV
  have HD := Lib.hid hnD
  have KS := Lib.hid hmS
  have KN := Lib.hid hmN
  have KT := Lib.hid hmT
  clear hnS hnN hnT hnV hnD hmS hmN hmT
  go_enter Tryz.func6, Tryz.ntmps6
  go_wp2_with fail
  refine (guard_stl aS nS cS aN nN cN aT nT cT aV nV cV aD nD cD bS mS dS bN mN dN bT mT dT tf qtf _ (by omega) (by omega) (by omega) (by omega) (by omega) (by omega) (by omega) (by omega) HT.out KT.out).mono ?_
  rintro e w' ⟨b, rfl, rfl⟩
  cases b with
  | false =>
    go_wp2
    go_ret
    exact ⟨rfl, Below.refl _ _⟩
  | true =>
    go_wp2_with fail
    refine (str_bytes aT nT cT tf _ lnT HT.out).mono ?_
    rintro e w' ⟨z1, hz1, rfl, rfl⟩
    go_wp2_with fail
    refine (str_bytes bT mT dT qtf _ lmT KT.out).mono ?_
    rintro e w' ⟨z2, hz2, rfl, rfl⟩
    by_cases hbig : nS + 8 * nN + z1 + 8 * nV + nD + mS + 8 * mN + z2 ≤ 1048576
    case neg =>
      go_wp2
      go_ret
      exact ⟨rfl, Below.refl _ _⟩
    go_wp2_with fail
    refine (min_two nS nN _).mono ?_
    rintro e w' ⟨rfl, rfl⟩
    go_wp2_with fail
    refine (min_two nV nD _).mono ?_
    rintro e w' ⟨rfl, rfl⟩
    go_wp2_with fail
    refine (min_three (min nS nN) nT (min nV nD) _).mono ?_
    rintro e w' ⟨rfl, rfl⟩
    obtain ⟨n, hn⟩ : ∃ n, n = min (min nS nN) (min nT (min nV nD)) := ⟨_, rfl⟩
    have ns : n ≤ nS := by omega
    have nn : n ≤ nN := by omega
    have nt : n ≤ nT := by omega
    have nv : n ≤ nV := by omega
    have nd : n ≤ nD := by omega
    rw [← hn]
    clear hn
    go_wp2_with fail
    refine (min_three mS mN mT _).mono ?_
    rintro e w' ⟨rfl, rfl⟩
    obtain ⟨m, hm⟩ : ∃ m, m = min mS (min mN mT) := ⟨_, rfl⟩
    have ms : m ≤ mS := by omega
    have mn : m ≤ mN := by omega
    have mt : m ≤ mT := by omega
    rw [← hm]
    clear hm
    go_wp2_with fail
    refine (num_keys_ok aS aN nS cS nN cN n sf xf tf _ ns nn lnS lnN HS.out HN.out).mono ?_
    rintro e w1 ⟨b, rfl, hu1, hb1⟩
    have U1 := Lib.hid hu1
    have B1 := Lib.hid hb1
    clear hu1 hb1
    cases b with
    | false =>
      go_wp2
      go_ret
      exact ⟨rfl, U1.out.below (Nat.le_refl _) (fun _ h => h.elim)⟩
    | true =>
      have KO := Lib.hid (B1.out rfl)
      clear B1 hbig
      go_wp2_with fail
      refine (stored_ok aV aD nV cV nD cD n val del _ nv nd lnV (HV.out.upd U1.out) (HD.out.upd U1.out)).mono ?_
      rintro e w2 ⟨b, rfl, hu2, hb2⟩
      have U2 := Lib.hid (U1.out.trans hu2)
      have B2 := Lib.hid hb2
      clear hu2 hb2 U1
      cases b with
      | false =>
        go_wp2
        go_ret
        exact ⟨rfl, U2.out.below (Nat.le_refl _) (fun _ h => h.elim)⟩
      | true =>
        have SO := Lib.hid (B2.out rfl)
        clear B2
        go_wp2_with fail
        refine (cloneBool aS nS cS sf _ (by omega) (HS.out.upd U2.out)).mono ?_
        rintro e wc1 ⟨a1, c1, rfl, hu, h1⟩
        have UC1 := Lib.hid (U2.out.trans hu)
        have H1 := Lib.hid (Held.of_new h1)
        clear hu h1 U2
        go_wp2_with fail
        refine (cloneFlo aN nN cN xf _ (by omega) (HN.out.upd UC1.out)).mono ?_
        rintro e wc2 ⟨a2, c2, rfl, hu, h1⟩
        have UC2 := Lib.hid (UC1.out.trans hu)
        have H1 := Lib.hid ((H1.out.upd hu (fun c h => h.elim)).mono hu.size)
        have H2 := Lib.hid (Held.of_new h1)
        clear hu h1 UC1
        go_wp2_with fail
        refine (cloneStr aT nT cT tf _ (by omega) (HT.out.upd UC2.out)).mono ?_
        rintro e wc3 ⟨a3, c3, rfl, hu, h1⟩
        have UC3 := Lib.hid (UC2.out.trans hu)
        have H1 := Lib.hid ((H1.out.upd hu (fun c h => h.elim)).mono hu.size)
        have H2 := Lib.hid ((H2.out.upd hu (fun c h => h.elim)).mono hu.size)
        have H3 := Lib.hid (Held.of_new h1)
        clear hu h1 UC2
        go_wp2_with fail
        refine (cloneFlo aV nV cV val _ (by omega) (HV.out.upd UC3.out)).mono ?_
        rintro e wc4 ⟨a4, c4, rfl, hu, h1⟩
        have UC4 := Lib.hid (UC3.out.trans hu)
        have H1 := Lib.hid ((H1.out.upd hu (fun c h => h.elim)).mono hu.size)
        have H2 := Lib.hid ((H2.out.upd hu (fun c h => h.elim)).mono hu.size)
        have H3 := Lib.hid ((H3.out.upd hu (fun c h => h.elim)).mono hu.size)
        have H4 := Lib.hid (Held.of_new h1)
        clear hu h1 UC3
        go_wp2_with fail
        refine (cloneBool aD nD cD del _ (by omega) (HD.out.upd UC4.out)).mono ?_
        rintro e wc5 ⟨a5, c5, rfl, hu, h1⟩
        have UC5 := Lib.hid (UC4.out.trans hu)
        have H1 := Lib.hid ((H1.out.upd hu (fun c h => h.elim)).mono hu.size)
        have H2 := Lib.hid ((H2.out.upd hu (fun c h => h.elim)).mono hu.size)
        have H3 := Lib.hid ((H3.out.upd hu (fun c h => h.elim)).mono hu.size)
        have H4 := Lib.hid ((H4.out.upd hu (fun c h => h.elim)).mono hu.size)
        have H5 := Lib.hid (Held.of_new h1)
        clear hu h1 UC4
        go_wp2_with fail
        refine (cloneBool bS mS dS qsf _ (by omega) (KS.out.upd UC5.out)).mono ?_
        rintro e wc6 ⟨a6, c6, rfl, hu, h1⟩
        have UC6 := Lib.hid (UC5.out.trans hu)
        have H1 := Lib.hid ((H1.out.upd hu (fun c h => h.elim)).mono hu.size)
        have H2 := Lib.hid ((H2.out.upd hu (fun c h => h.elim)).mono hu.size)
        have H3 := Lib.hid ((H3.out.upd hu (fun c h => h.elim)).mono hu.size)
        have H4 := Lib.hid ((H4.out.upd hu (fun c h => h.elim)).mono hu.size)
        have H5 := Lib.hid ((H5.out.upd hu (fun c h => h.elim)).mono hu.size)
        have H6 := Lib.hid (Held.of_new h1)
        clear hu h1 UC5
        go_wp2_with fail
        refine (cloneFlo bN mN dN qnf _ (by omega) (KN.out.upd UC6.out)).mono ?_
        rintro e wc7 ⟨a7, c7, rfl, hu, h1⟩
        have UC7 := Lib.hid (UC6.out.trans hu)
        have H1 := Lib.hid ((H1.out.upd hu (fun c h => h.elim)).mono hu.size)
        have H2 := Lib.hid ((H2.out.upd hu (fun c h => h.elim)).mono hu.size)
        have H3 := Lib.hid ((H3.out.upd hu (fun c h => h.elim)).mono hu.size)
        have H4 := Lib.hid ((H4.out.upd hu (fun c h => h.elim)).mono hu.size)
        have H5 := Lib.hid ((H5.out.upd hu (fun c h => h.elim)).mono hu.size)
        have H6 := Lib.hid ((H6.out.upd hu (fun c h => h.elim)).mono hu.size)
        have H7 := Lib.hid (Held.of_new h1)
        clear hu h1 UC6
        go_wp2_with fail
        refine (cloneStr bT mT dT qtf _ (by omega) (KT.out.upd UC7.out)).mono ?_
        rintro e wc8 ⟨a8, c8, rfl, hu, h1⟩
        have UC8 := Lib.hid (UC7.out.trans hu)
        have H1 := Lib.hid ((H1.out.upd hu (fun c h => h.elim)).mono hu.size)
        have H2 := Lib.hid ((H2.out.upd hu (fun c h => h.elim)).mono hu.size)
        have H3 := Lib.hid ((H3.out.upd hu (fun c h => h.elim)).mono hu.size)
        have H4 := Lib.hid ((H4.out.upd hu (fun c h => h.elim)).mono hu.size)
        have H5 := Lib.hid ((H5.out.upd hu (fun c h => h.elim)).mono hu.size)
        have H6 := Lib.hid ((H6.out.upd hu (fun c h => h.elim)).mono hu.size)
        have H7 := Lib.hid ((H7.out.upd hu (fun c h => h.elim)).mono hu.size)
        have H8 := Lib.hid (Held.of_new h1)
        clear hu h1 UC7
        clear HS HN HT HV HD KS KN KT
        go_wp2_with fail
        refine (new_ls _).mono ?_
        rintro e w7 ⟨La, rfl, hu7⟩
        have U7 := Lib.hid hu7
        clear hu7
        go_wp2_with fail
        refine (new_table _ _).mono ?_
        rintro e w8 ⟨T, A, mp, rfl, hn8⟩
        have U8 := Lib.hid (U7.out.trans hn8.upd)
        have hfp := new_fp hn8
        have FP := Lib.hid (show ∀ c, Fp ⟨T, .slice (some ⟨A, 0, none⟩) 0 32, none, mp, .slice none 0 0, none⟩ c → wc8.heap.size ≤ c from fun c h => Nat.le_trans U7.out.size (hfp c h))
        have TB := Lib.hid (Tab.new hn8)
        clear hn8 hfp U7
        go_wp2_with fail
        go_loopw [21] (fun iv wr => ∃ (j : Nat) (t : Tbs) (S : St) (ks : List Value) (ix : List MapEntry), j ≤ n ∧ iv = .int .i64 j ∧ t.T = T ∧ Upd (fun _ => False) wc8 wr ∧ (∀ c, Fp t c → wc8.heap.size ≤ c) ∧ Tab wr t nilw S ks ix ∧ RanK (fun m => kof (sf m) (xf m) (tf m)) (vv val del) j S ∧ S.arr.length ≤ 65536 ∧ ks.length ≤ j) (fun iv _ => n - (intOf iv).toNat)
        case atStart => exact ⟨0, _, ⟨[], [], []⟩, [], [], Nat.zero_le _, rfl, rfl, U8.out, FP.out, TB.out, ranK_zero _ _, by simp, by simp⟩
        case round =>
          obtain ⟨j, t, S, ks, ix, hj, rfl, hT, hu9, hf9, ht9, hr9, hl9, hk9⟩ := hrel
          have U9 := Lib.hid hu9
          have F9 := Lib.hid hf9
          have T9 := Lib.hid ht9
          have R9 := Lib.hid hr9
          have hTT := Lib.hid hT
          clear hu9 hf9 ht9 hr9 hT U8 FP TB
          by_cases hlt : j < n
          · obtain ⟨b1, off1, rfl, hc1⟩ := (H1.out.upd U9.out (fun c h => h.elim)).one (j := j) (by omega)
            obtain ⟨b5, off5, rfl, hc5⟩ := (H5.out.upd U9.out (fun c h => h.elim)).one (j := j) (by omega)
            have i1 : (0 : Int) ≤ (j : Int) := by omega
            have i2 : (j : Int) < (nS : Int) := by omega
            have i3 : (j : Int) < (nN : Int) := by omega
            have i4 : (j : Int) < (nT : Int) := by omega
            have i5 : (j : Int) < (nV : Int) := by omega
            have i6 : (j : Int) < (nD : Int) := by omega
            have CW := Lib.hid (show ∀ wx : World, Upd (fun _ => False) wr wx → Calls Tryz.prog 39 #[.pointer (some ⟨La, 0, none⟩), .iface 32 (.pointer (some ⟨T, 0, none⟩)), kval (kof (sf j) (xf j) (tf j)), vv val del j] wx (SetKey t nilw S ks (kof (sf j) (xf j) (tf j)) (vv val del j) wx) from fun wx hux => by
              have C := set_table (some ⟨La, 0, none⟩) t S ks ix (kof (sf j) (xf j) (tf j)) (vv val del j) (del j) wx (vv_val val del j) (by omega) (KO.out j hlt) hl9 (R9.out.nv (vv_nv val del) _) (T9.out.upd hux (fun _ _ h => h))
              rw [hTT.out] at C
              exact C)
            have fin : ∀ wx : World, Upd (fun _ => False) wr wx → ∀ e w', SetKey t nilw S ks (kof (sf j) (xf j) (tf j)) (vv val del j) wx e w' → e = .returned (.tuple #[]) ∧ ∃ (t' : Tbs) (S' : St) (ks' : List Value) (ix' : List MapEntry), t'.T = T ∧ Upd (fun _ => False) wc8 w' ∧ (∀ c, Fp t' c → wc8.heap.size ≤ c) ∧ Tab w' t' nilw S' ks' ix' ∧ RanK (fun m => kof (sf m) (xf m) (tf m)) (vv val del) (j + 1) S' ∧ S'.arr.length ≤ 65536 ∧ ks'.length ≤ j + 1 := fun wx hux e w' ⟨he, t', S', ks', ix', h1, h2, h3, h4, h5, h6, h7⟩ =>
              ⟨he, t', S', ks', ix', h1.trans hTT.out, (U9.out.trans hux).trans_new h2 F9.out, fun c hc => by
                rcases h3 c hc with h | h
                · exact F9.out c h
                · have := U9.out.size; have := hux.size; omega, h4, R9.out.next h5, by omega, by omega⟩
            have FIN := Lib.hid fin
            clear fin
            cases hsj : sf j with
            | true =>
              rw [hsj] at hc1
              cases hdj : del j with
              | true =>
                as_aux_lemma =>
                  rw [hdj] at hc5
                  obtain ⟨b3, off3, rfl, hc3⟩ := (H3.out.upd U9.out (fun c h => h.elim)).one (j := j) (by omega)
                  have CC := Lib.hid (CW.out wr (Upd.refl _ _))
                  rw [show kval (kof (sf j) (xf j) (tf j)) = .iface 78 (.string (tf j)) by rw [hsj]; rfl, show vv val del j = .iface 69 (.int .u8 0) by unfold vv; rw [hdj]; rfl] at CC
                  clear CW
                  go_wp2_with fail
                  refine CC.out.mono ?_
                  intro e w' hs
                  obtain ⟨rfl, t', S', ks', ix', g1, g2, g3, g4, g5, g6, g7⟩ := FIN.out wr (Upd.refl _ _) e w' (by
                    rw [show vv val del j = .iface 69 (.int .u8 0) by unfold vv; rw [hdj]; rfl]
                    exact hs)
                  have G := Lib.hid (⟨g1, g2, g3, g4, g5, g6, g7⟩ : _ ∧ _ ∧ _ ∧ _ ∧ _ ∧ _ ∧ _)
                  clear hs g1 g2 g3 g4 g5 g6 g7
                  go_wp2
                  go_roundw
                  case rel => exact ⟨j + 1, t', S', ks', ix', by omega, by go_num, G.out.1, G.out.2.1, G.out.2.2.1, G.out.2.2.2.1, G.out.2.2.2.2.1, G.out.2.2.2.2.2.1, G.out.2.2.2.2.2.2⟩
                  case measure => simp [intOf]; omega
              | false =>
                as_aux_lemma =>
                  rw [hdj] at hc5
                  obtain ⟨b3, off3, rfl, hc3⟩ := (H3.out.upd U9.out (fun c h => h.elim)).one (j := j) (by omega)
                  obtain ⟨b4, off4, rfl, hc4⟩ := (H4.out.upd U9.out (fun c h => h.elim)).one (j := j) (by omega)
                  go_wp2_with fail
                  refine wp_region_tail_at 13 (by kernel_rfl) (by kernel_rfl) (fun W1 hW1 => ?_)
                  have UW := Lib.hid (show Upd (fun _ => False) wr W1 by rw [hW1]; exact (Upd.refl _ _).drew)
                  have hc3 : W1.cell? ⟨b3, off3 + j, none⟩ = some (.string (tf j)) := by rw [hW1]; exact hc3
                  have hc4 : W1.cell? ⟨b4, off4 + j, none⟩ = some (.float .f64 (val j)) := by rw [hW1]; exact hc4
                  have CC := Lib.hid (CW.out W1 UW.out)
                  rw [show kval (kof (sf j) (xf j) (tf j)) = .iface 78 (.string (tf j)) by rw [hsj]; rfl, show vv val del j = .iface 53 (.float .f64 (val j)) by unfold vv; rw [hdj]; rfl] at CC
                  clear CW hW1
                  simp only [List.take_succ_cons, List.take_zero, List.drop_succ_cons, List.drop_zero]
                  repeat still_step
                  refine wpStill_nil ?_
                  go_wp2_with fail
                  refine CC.out.mono ?_
                  intro e w' hs
                  obtain ⟨rfl, t', S', ks', ix', g1, g2, g3, g4, g5, g6, g7⟩ := FIN.out W1 UW.out e w' (by
                    rw [show vv val del j = .iface 53 (.float .f64 (val j)) by unfold vv; rw [hdj]; rfl]
                    exact hs)
                  have G := Lib.hid (⟨g1, g2, g3, g4, g5, g6, g7⟩ : _ ∧ _ ∧ _ ∧ _ ∧ _ ∧ _ ∧ _)
                  clear hs g1 g2 g3 g4 g5 g6 g7
                  go_wp2
                  go_roundw
                  case rel => exact ⟨j + 1, t', S', ks', ix', by omega, by go_num, G.out.1, G.out.2.1, G.out.2.2.1, G.out.2.2.2.1, G.out.2.2.2.2.1, G.out.2.2.2.2.2.1, G.out.2.2.2.2.2.2⟩
                  case measure => simp [intOf]; omega
            | false =>
              rw [hsj] at hc1
              cases hdj : del j with
              | true =>
                as_aux_lemma =>
                  rw [hdj] at hc5
                  obtain ⟨b2, off2, rfl, hc2⟩ := (H2.out.upd U9.out (fun c h => h.elim)).one (j := j) (by omega)
                  have CC := Lib.hid (CW.out wr (Upd.refl _ _))
                  rw [show kval (kof (sf j) (xf j) (tf j)) = .iface 53 (.float .f64 (xf j)) by rw [hsj]; rfl, show vv val del j = .iface 69 (.int .u8 0) by unfold vv; rw [hdj]; rfl] at CC
                  clear CW
                  go_wp2_with fail
                  refine CC.out.mono ?_
                  intro e w' hs
                  obtain ⟨rfl, t', S', ks', ix', g1, g2, g3, g4, g5, g6, g7⟩ := FIN.out wr (Upd.refl _ _) e w' (by
                    rw [show vv val del j = .iface 69 (.int .u8 0) by unfold vv; rw [hdj]; rfl]
                    exact hs)
                  have G := Lib.hid (⟨g1, g2, g3, g4, g5, g6, g7⟩ : _ ∧ _ ∧ _ ∧ _ ∧ _ ∧ _ ∧ _)
                  clear hs g1 g2 g3 g4 g5 g6 g7
                  go_wp2
                  go_roundw
                  case rel => exact ⟨j + 1, t', S', ks', ix', by omega, by go_num, G.out.1, G.out.2.1, G.out.2.2.1, G.out.2.2.2.1, G.out.2.2.2.2.1, G.out.2.2.2.2.2.1, G.out.2.2.2.2.2.2⟩
                  case measure => simp [intOf]; omega
              | false =>
                as_aux_lemma =>
                  rw [hdj] at hc5
                  obtain ⟨b2, off2, rfl, hc2⟩ := (H2.out.upd U9.out (fun c h => h.elim)).one (j := j) (by omega)
                  obtain ⟨b4, off4, rfl, hc4⟩ := (H4.out.upd U9.out (fun c h => h.elim)).one (j := j) (by omega)
                  go_wp2_with fail
                  refine wp_region_tail_at 13 (by kernel_rfl) (by kernel_rfl) (fun W1 hW1 => ?_)
                  have UW := Lib.hid (show Upd (fun _ => False) wr W1 by rw [hW1]; exact (Upd.refl _ _).drew)
                  have hc2 : W1.cell? ⟨b2, off2 + j, none⟩ = some (.float .f64 (xf j)) := by rw [hW1]; exact hc2
                  have hc4 : W1.cell? ⟨b4, off4 + j, none⟩ = some (.float .f64 (val j)) := by rw [hW1]; exact hc4
                  have CC := Lib.hid (CW.out W1 UW.out)
                  rw [show kval (kof (sf j) (xf j) (tf j)) = .iface 53 (.float .f64 (xf j)) by rw [hsj]; rfl, show vv val del j = .iface 53 (.float .f64 (val j)) by unfold vv; rw [hdj]; rfl] at CC
                  clear CW hW1
                  simp only [List.take_succ_cons, List.take_zero, List.drop_succ_cons, List.drop_zero]
                  repeat still_step
                  refine wpStill_nil ?_
                  go_wp2_with fail
                  refine CC.out.mono ?_
                  intro e w' hs
                  obtain ⟨rfl, t', S', ks', ix', g1, g2, g3, g4, g5, g6, g7⟩ := FIN.out W1 UW.out e w' (by
                    rw [show vv val del j = .iface 53 (.float .f64 (val j)) by unfold vv; rw [hdj]; rfl]
                    exact hs)
                  have G := Lib.hid (⟨g1, g2, g3, g4, g5, g6, g7⟩ : _ ∧ _ ∧ _ ∧ _ ∧ _ ∧ _ ∧ _)
                  clear hs g1 g2 g3 g4 g5 g6 g7
                  go_wp2
                  go_roundw
                  case rel => exact ⟨j + 1, t', S', ks', ix', by omega, by go_num, G.out.1, G.out.2.1, G.out.2.2.1, G.out.2.2.2.1, G.out.2.2.2.2.1, G.out.2.2.2.2.2.1, G.out.2.2.2.2.2.2⟩
                  case measure => simp [intOf]; omega
          · obtain rfl : j = n := by omega
            obtain ⟨w9, rfl⟩ : ∃ w9 : World, w9 = wr := ⟨_, rfl⟩
            have hwsum : IntKind.i64.wrap ((j : Int) + (m : Int)) = (j : Int) + (m : Int) := IntWalk.i64_in _ (by omega)
            clear hlt
            go_wp2_with fail
            go_loopw [22] (fun iv wr => ∃ i : Nat, i ≤ j + m ∧ iv = .int .i64 i ∧ Upd (fun _ => False) w9 wr) (fun iv _ => j + m - (intOf iv).toNat)
            case atStart => exact ⟨0, Nat.zero_le _, rfl, Upd.refl _ _⟩
            case round =>
              obtain ⟨i, hi, rfl, hu10⟩ := hrel
              have U10 := Lib.hid hu10
              clear hu10
              have V10 := Lib.hid (U9.out.trans U10.out)
              by_cases hlt : i < j + m
              · have k1 : (i : Int) < (j : Int) + (m : Int) := by omega
                go_upto_if 227 with fail
                go_cut [23, 24, 25] (fun s23 s24 s25 wc => ∃ (qs : Bool) (qn : Nat) (qt : ByteArray), s23 = .bool qs ∧ s24 = .float .f64 qn ∧ s25 = .string qt ∧ Upd (fun _ => False) w9 wc)
                case first =>
                  by_cases hij : i < j
                  · obtain ⟨b1, off1, rfl, hc1⟩ := (H1.out.upd V10.out (fun c h => h.elim)).one (j := i) (by omega)
                    obtain ⟨b2, off2, rfl, hc2⟩ := (H2.out.upd V10.out (fun c h => h.elim)).one (j := i) (by omega)
                    obtain ⟨b3, off3, rfl, hc3⟩ := (H3.out.upd V10.out (fun c h => h.elim)).one (j := i) (by omega)
                    have i1 : (0 : Int) ≤ (i : Int) := by omega
                    have i2 : (i : Int) < (nS : Int) := by omega
                    have i3 : (i : Int) < (nN : Int) := by omega
                    have i4 : (i : Int) < (nT : Int) := by omega
                    have hij2 : (i : Int) < (j : Int) := by omega
                    go_wp2
                    go_meet
                    case rel => exact ⟨_, _, _, rfl, rfl, rfl, U10.out⟩
                  · obtain ⟨b6, off6, rfl, hc6⟩ := (H6.out.upd V10.out (fun c h => h.elim)).one (j := i - j) (by omega)
                    obtain ⟨b7, off7, rfl, hc7⟩ := (H7.out.upd V10.out (fun c h => h.elim)).one (j := i - j) (by omega)
                    obtain ⟨b8, off8, rfl, hc8⟩ := (H8.out.upd V10.out (fun c h => h.elim)).one (j := i - j) (by omega)
                    have i0 : IntKind.i64.wrap ((i : Int) - (j : Int)) = ((i - j : Nat) : Int) := by rw [IntWalk.i64_in _ (by omega)]; omega
                    have i1 : (0 : Int) ≤ ((i - j : Nat) : Int) := by omega
                    have i2 : ((i - j : Nat) : Int) < (mS : Int) := by omega
                    have i3 : ((i - j : Nat) : Int) < (mN : Int) := by omega
                    have i4 : ((i - j : Nat) : Int) < (mT : Int) := by omega
                    have hij2 : ¬ (i : Int) < (j : Int) := by omega
                    go_wp2
                    go_meet
                    case rel => exact ⟨_, _, _, rfl, rfl, rfl, U10.out⟩
                case rest =>
                  obtain ⟨qs, qn, qt, rfl, rfl, rfl, hu12⟩ := hcut
                  clear U10 V10
                  have U10 := Lib.hid hu12
                  have V10 := Lib.hid (U9.out.trans U10.out)
                  clear hu12
                  as_aux_lemma =>
                    go_wp2_with fail
                    go_loopw [26, 27] (fun jv tv wx => ∃ q : Nat, q ≤ j ∧ tv = .int .i64 q ∧ jv = .int .i64 (lk kq (fun m => kof (sf m) (xf m) (tf m)) (kof qs qn qt) q) ∧ Upd (fun _ => False) w9 wx) (fun _ tv _ => j - (intOf tv).toNat)
                    case atStart => exact ⟨0, Nat.zero_le _, rfl, rfl, U10.out⟩
                    case round =>
                      obtain ⟨q, hq, rfl, rfl, hu11⟩ := hrel
                      have U11 := Lib.hid hu11
                      have V11 := Lib.hid (U9.out.trans hu11)
                      clear hu11
                      by_cases hlq : q < j
                      · obtain ⟨e1, o1, he1, hd1⟩ := (H1.out.upd V11.out (fun c h => h.elim)).one (j := q) (by omega)
                        obtain ⟨e2, o2, he2, hd2⟩ := (H2.out.upd V11.out (fun c h => h.elim)).one (j := q) (by omega)
                        obtain ⟨e3, o3, he3, hd3⟩ := (H3.out.upd V11.out (fun c h => h.elim)).one (j := q) (by omega)
                        subst he1
                        subst he2
                        subst he3
                        have q1 : (0 : Int) ≤ (q : Int) := by omega
                        have q2 : (q : Int) < (nS : Int) := by omega
                        have q3 : (q : Int) < (nN : Int) := by omega
                        have q4 : (q : Int) < (nT : Int) := by omega
                        cases hkq : keq (kof (sf q) (xf q) (tf q)) (kof qs qn qt) with
                        | true =>
                          have CK := Lib.hid (key_eq (sf q) (xf q) (tf q) qs qn qt)
                          rw [hkq] at CK
                          have LI := Lib.hid (lk_yes (eqk := kq) (ks := (fun m => kof (sf m) (xf m) (tf m))) (q := kof qs qn qt) (n := q) hkq)
                          clear hkq
                          go_wp2_with fail
                          go_quiet ((go_at_call 40; exact Calls.quiet_of_same ((CK.out _).mono (fun _ _ h => ⟨h.1, h.2.symm⟩))))
                          go_wp2
                          go_roundw
                          case rel => exact ⟨q + 1, by omega, by go_num, by rw [LI.out], U11.out.drewN _⟩
                          case measure => simp [intOf]; omega
                        | false =>
                          have CK := Lib.hid (key_eq (sf q) (xf q) (tf q) qs qn qt)
                          rw [hkq] at CK
                          have LI := Lib.hid (lk_no (eqk := kq) (ks := (fun m => kof (sf m) (xf m) (tf m))) (q := kof qs qn qt) (n := q) hkq)
                          clear hkq
                          go_wp2_with fail
                          go_quiet ((go_at_call 40; exact Calls.quiet_of_same ((CK.out _).mono (fun _ _ h => ⟨h.1, h.2.symm⟩))))
                          go_wp2
                          go_roundw
                          case rel => exact ⟨q + 1, by omega, by go_num, by rw [LI.out], U11.out.drewN _⟩
                          case measure => simp [intOf]; omega
                      · obtain rfl : q = j := by omega
                        obtain ⟨w11, rfl⟩ : ∃ w11 : World, w11 = wr := ⟨_, rfl⟩
                        clear hlq
                        have hR := R9.out.at (kof qs qn qt)
                        have C2 := get_table (some ⟨La, 0, none⟩) t S ks ix (kof qs qn qt) w11 (R9.out.nv (vv_nv val del) _) (T9.out.upd U11.out (fun _ _ h => h))
                        rw [hTT.out] at C2
                        obtain ⟨hv0, hv0e⟩ : ∃ v, holds S (kof qs qn qt) = v := ⟨_, rfl⟩
                        rw [hv0e] at C2 hR
                        clear hv0e
                        cases hl : Last.last kq (fun m => kof (sf m) (xf m) (tf m)) (kof qs qn qt) q with
                        | none =>
                          rw [hl] at hR
                          rw [show lk kq (fun m => kof (sf m) (xf m) (tf m)) (kof qs qn qt) q = -1 by unfold lk; rw [hl]]
                          obtain rfl : hv0 = .iface 69 (.int .u8 0) := hR
                          have CC2 := Lib.hid C2
                          clear C2 hl
                          cases qs with
                          | true =>
                            go_wp2_with fail
                            refine CC2.out.mono ?_
                            rintro e w12 ⟨rfl, hu12⟩
                            have U12 := Lib.hid (U11.out.trans hu12)
                            clear hu12 CC2
                            go_wp2_with fail
                            refine (nil_type _).mono ?_
                            rintro e w' ⟨rfl, rfl⟩
                            go_wp2
                            go_roundw
                            case rel => exact ⟨i + 1, by omega, by go_num, U12.out⟩
                            case measure => simp [intOf]; omega
                          | false =>
                            go_wp2_with fail
                            refine CC2.out.mono ?_
                            rintro e w12 ⟨rfl, hu12⟩
                            have U12 := Lib.hid (U11.out.trans hu12)
                            clear hu12 CC2
                            go_wp2_with fail
                            refine (nil_type _).mono ?_
                            rintro e w' ⟨rfl, rfl⟩
                            go_wp2
                            go_roundw
                            case rel => exact ⟨i + 1, by omega, by go_num, U12.out⟩
                            case measure => simp [intOf]; omega
                        | some mm =>
                          have hm : mm < q := Last.last_lt _ hl
                          rw [hl] at hR
                          rw [show lk kq (fun m => kof (sf m) (xf m) (tf m)) (kof qs qn qt) q = (mm : Int) by unfold lk; rw [hl]]
                          have hR2 : hv0 = vv val del mm := hR
                          have m1 : (0 : Int) ≤ (mm : Int) := by omega
                          have m2 : (mm : Int) < (nD : Int) := by omega
                          have m3 : (mm : Int) < (nV : Int) := by omega
                          have m4 : ¬ (mm : Int) < 0 := by omega
                          clear hR hl
                          cases hdm : del mm with
                          | true =>
                            obtain rfl : hv0 = .iface 69 (.int .u8 0) := by rw [hR2]; unfold vv; rw [hdm]; rfl
                            have CC2 := Lib.hid C2
                            clear C2 hR2
                            cases qs with
                            | true =>
                              go_wp2_with fail
                              refine CC2.out.mono ?_
                              rintro e w12 ⟨rfl, hu12⟩
                              have U12 := Lib.hid (U11.out.trans hu12)
                              clear hu12 CC2
                              obtain ⟨b5, off5, rfl, hc5⟩ := (H5.out.upd (U9.out.trans U12.out) (fun c h => h.elim)).one (j := mm) (by omega)
                              rw [hdm] at hc5
                              go_wp2_with fail
                              refine (nil_type _).mono ?_
                              rintro e w' ⟨rfl, rfl⟩
                              go_wp2
                              go_roundw
                              case rel => exact ⟨i + 1, by omega, by go_num, U12.out⟩
                              case measure => simp [intOf]; omega
                            | false =>
                              go_wp2_with fail
                              refine CC2.out.mono ?_
                              rintro e w12 ⟨rfl, hu12⟩
                              have U12 := Lib.hid (U11.out.trans hu12)
                              clear hu12 CC2
                              obtain ⟨b5, off5, rfl, hc5⟩ := (H5.out.upd (U9.out.trans U12.out) (fun c h => h.elim)).one (j := mm) (by omega)
                              rw [hdm] at hc5
                              go_wp2_with fail
                              refine (nil_type _).mono ?_
                              rintro e w' ⟨rfl, rfl⟩
                              go_wp2
                              go_roundw
                              case rel => exact ⟨i + 1, by omega, by go_num, U12.out⟩
                              case measure => simp [intOf]; omega
                          | false =>
                            obtain rfl : hv0 = numv (val mm) := by rw [hR2]; unfold vv; rw [hdm]; rfl
                            have CC2 := Lib.hid C2
                            clear C2 hR2
                            cases qs with
                            | true =>
                              go_wp2_with fail
                              refine CC2.out.mono ?_
                              rintro e w12 ⟨rfl, hu12⟩
                              have U12 := Lib.hid (U11.out.trans hu12)
                              clear hu12 CC2
                              obtain ⟨b5, off5, rfl, hc5⟩ := (H5.out.upd (U9.out.trans U12.out) (fun c h => h.elim)).one (j := mm) (by omega)
                              rw [hdm] at hc5
                              obtain ⟨b4, off4, rfl, hc4⟩ := (H4.out.upd (U9.out.trans U12.out) (fun c h => h.elim)).one (j := mm) (by omega)
                              go_wp2_with fail
                              refine (raw_equal _ (val mm) _ (SO.out mm hm hdm)).mono ?_
                              rintro e w' ⟨rfl, rfl⟩
                              go_wp2
                              go_roundw
                              case rel => exact ⟨i + 1, by omega, by go_num, U12.out⟩
                              case measure => simp [intOf]; omega
                            | false =>
                              go_wp2_with fail
                              refine CC2.out.mono ?_
                              rintro e w12 ⟨rfl, hu12⟩
                              have U12 := Lib.hid (U11.out.trans hu12)
                              clear hu12 CC2
                              obtain ⟨b5, off5, rfl, hc5⟩ := (H5.out.upd (U9.out.trans U12.out) (fun c h => h.elim)).one (j := mm) (by omega)
                              rw [hdm] at hc5
                              obtain ⟨b4, off4, rfl, hc4⟩ := (H4.out.upd (U9.out.trans U12.out) (fun c h => h.elim)).one (j := mm) (by omega)
                              go_wp2_with fail
                              refine (raw_equal _ (val mm) _ (SO.out mm hm hdm)).mono ?_
                              rintro e w' ⟨rfl, rfl⟩
                              go_wp2
                              go_roundw
                              case rel => exact ⟨i + 1, by omega, by go_num, U12.out⟩
                              case measure => simp [intOf]; omega
              · obtain rfl : i = j + m := by omega
                go_wp2
                go_ret
                exact ⟨rfl, ((UC8.out.trans U9.out).trans U10.out).below (Nat.le_refl _) (fun _ h => h.elim)⟩

set_option maxHeartbeats 1600000 in
theorem stl_long (aS : Option Addr) (nS cS : Nat) (aN : Option Addr) (nN cN : Nat) (aT : Option Addr) (nT cT : Nat) (aV : Option Addr) (nV cV : Nat) (aD : Option Addr) (nD cD : Nat) (bS : Option Addr) (mS dS : Nat) (bN : Option Addr) (mN dN : Nat) (bT : Option Addr) (mT dT : Nat) (tf : Nat → ByteArray) (qtf : Nat → ByteArray) (w : World) (mnS : nS ≤ 9223372036854775807) (mnN : nN ≤ 9223372036854775807) (mnT : nT ≤ 9223372036854775807) (mnV : nV ≤ 9223372036854775807) (mnD : nD ≤ 9223372036854775807) (mmS : mS ≤ 9223372036854775807) (mmN : mN ≤ 9223372036854775807) (mmT : mT ≤ 9223372036854775807) (hl : ¬ (nS ≤ 4096 ∧ nN ≤ 4096 ∧ nT ≤ 4096 ∧ nV ≤ 4096 ∧ nD ≤ 4096 ∧ mS ≤ 4096 ∧ mN ≤ 4096 ∧ mT ≤ 4096)) (hnT : Cells w aT nT fun j => .string (tf j)) (hmT : Cells w bT mT fun j => .string (qtf j)) :
    Calls Tryz.prog 6 #[.slice aS nS cS, .slice aN nN cN, .slice aT nT cT, .slice aV nV cV, .slice aD nD cD, .slice bS mS dS, .slice bN mN dN, .slice bT mT dT] w (Good w) := by
  have HT := Lib.hid hnT
  have KT := Lib.hid hmT
  clear hnT hmT
  go_enter Tryz.func6, Tryz.ntmps6
  go_wp2_with fail
  refine (guard_stl aS nS cS aN nN cN aT nT cT aV nV cV aD nD cD bS mS dS bN mN dN bT mT dT tf qtf _ mnS mnN mnT mnV mnD mmS mmN mmT HT.out KT.out).mono ?_
  rintro e w' ⟨b, rfl, rfl⟩
  cases b with
  | false =>
    go_wp2
    go_ret
    exact ⟨rfl, Below.refl _ _⟩
  | true =>
    by_cases gnS : nS ≤ 4096
    case neg =>
      clear hl
      go_wp2
      all_goals
        go_ret
        exact ⟨rfl, Below.refl _ _⟩
    by_cases gnN : nN ≤ 4096
    case neg =>
      clear hl
      go_wp2
      all_goals
        go_ret
        exact ⟨rfl, Below.refl _ _⟩
    by_cases gnT : nT ≤ 4096
    case neg =>
      clear hl
      go_wp2
      all_goals
        go_ret
        exact ⟨rfl, Below.refl _ _⟩
    by_cases gnV : nV ≤ 4096
    case neg =>
      clear hl
      go_wp2
      all_goals
        go_ret
        exact ⟨rfl, Below.refl _ _⟩
    by_cases gnD : nD ≤ 4096
    case neg =>
      clear hl
      go_wp2
      all_goals
        go_ret
        exact ⟨rfl, Below.refl _ _⟩
    by_cases gmS : mS ≤ 4096
    case neg =>
      clear hl
      go_wp2
      all_goals
        go_ret
        exact ⟨rfl, Below.refl _ _⟩
    by_cases gmN : mN ≤ 4096
    case neg =>
      clear hl
      go_wp2
      all_goals
        go_ret
        exact ⟨rfl, Below.refl _ _⟩
    have gmT : ¬ mT ≤ 4096 := fun h => hl ⟨gnS, gnN, gnT, gnV, gnD, gmS, gmN, h⟩
    clear hl
    go_wp2
    all_goals
      go_ret
      exact ⟨rfl, Below.refl _ _⟩
end Go.Proofs.YtlmadbgpllokfaaGreatFmt
