/- FnRawGetAgreesWithRawGetIntAndZeroSign: walked. -/
import Derived.Test.YtlmadbgpllokfaaGreatFmtOpl
import Derived.Test.YtlmadbgpllokfaaGreatFmtSpa
namespace Go.Proofs.YtlmadbgpllokfaaGreatFmt
open Go.RowKit Go.Mapy Go.Tbl
set_option maxRecDepth 100000

/-- A text, or nil. -/
def IsStr1 (v : Value) : Prop := v = nilw ∨ ∃ s, v = strv s
theorem ran_is (f : Nat → Rop) (n : Nat) (q : Key) : IsStr1 (ran f n q) := by
  unfold ran
  rw [Last.run_last]
  cases Last.last keq (fun i => (f i).key) q n with
  | none => exact .inl rfl
  | some j =>
    show IsStr1 (f j).val
    unfold Rop.val
    split
    · exact .inl rfl
    · exact .inr ⟨_, rfl⟩
theorem ran_congr (f : Nat → Rop) (n : Nat) {p q : Key} (h : keq p q = true) : ran f n p = ran f n q := by
  have e : Last.last keq (fun i => (f i).key) p n = Last.last keq (fun i => (f i).key) q n := Last.last_congr keq (fun i _ => by
    cases h1 : keq p (f i).key
    · cases h2 : keq q (f i).key
      · rfl
      · rw [keq_trans h h2] at h1; cases h1
    · exact (keq_trans (keq_symm h) h1).symm)
  unfold ran
  rw [Last.run_last, Last.run_last, e]

set_option maxHeartbeats 800000 in
theorem same_value (v : Value) (hv : IsStr1 v) (w : World) : Calls Tryz.prog 22 #[v, v] w fun e w' => e = .returned (.bool true) ∧ w = w' := by
  rcases hv with rfl | ⟨s, rfl⟩
  · unfold nilw
    go_enter Tryz.func22, Tryz.ntmps22
    go_wp2_with fail
    refine (nil_type _).mono ?_
    rintro e w' ⟨rfl, rfl⟩
    go_wp2_with fail
    refine (nil_type _).mono ?_
    rintro e w' ⟨rfl, rfl⟩
    go_wp2_with fail
    refine (nil_type _).mono ?_
    rintro e w' ⟨rfl, rfl⟩
    go_wp2
    go_ret
    exact ⟨rfl, rfl⟩
  · unfold strv
    go_enter Tryz.func22, Tryz.ntmps22
    go_wp2_with fail
    refine (str_type s _).mono ?_
    rintro e w' ⟨rfl, rfl⟩
    go_wp2_with fail
    refine (str_type s _).mono ?_
    rintro e w' ⟨rfl, rfl⟩
    go_wp2_with fail
    refine (str_type s _).mono ?_
    rintro e w' ⟨rfl, rfl⟩
    go_wp2_with fail
    refine (str_type s _).mono ?_
    rintro e w' ⟨rfl, rfl⟩
    go_wp2_with fail
    refine (str_string s _).mono ?_
    rintro e w' ⟨rfl, rfl⟩
    go_wp2_with fail
    refine (str_string s _).mono ?_
    rintro e w' ⟨rfl, rfl⟩
    go_wp2
    go_ret
    exact ⟨rfl, rfl⟩

set_option maxHeartbeats 3200000 in
theorem agr_in (a1 a2 : Option Addr) (n c1 q c2 : Nat) (f g : Nat → Rop) (x : Int) (w : World) (hn : n ≤ 4096) (hq : q ≤ 4096) (hf : Rops w w.heap.size a1 n f) (hg : Rops w w.heap.size a2 q g) :
    Calls Tryz.prog 4 #[.slice a1 n c1, .slice a2 q c2, .int .i64 x] w (Good w) := by
  have HF := Lib.hid hf
  have HG := Lib.hid hg
  clear hf hg
  go_enter Tryz.func4, Tryz.ntmps4
  go_wp2_with fail
  refine (guard_agr a1 a2 n c1 q c2 f g x _ _ (by omega) (by omega) HF.out HG.out).mono ?_
  rintro e w' ⟨b, rfl, rfl, hb⟩
  have HB := Lib.hid hb
  clear hb
  cases b with
  | false =>
    go_wp2
    go_ret
    exact ⟨rfl, Below.refl _ _⟩
  | true =>
    have S1 := Lib.hid (HB.out rfl).1
    have S2 := Lib.hid (HB.out rfl).2
    clear HB
    go_wp2_with fail
    refine (ops_bytes a1 n c1 f _ _ hn S1.out HF.out).mono ?_
    rintro e w1 ⟨z1, hz1, rfl, hu1⟩
    have U1 := Lib.hid hu1
    clear hu1
    go_wp2_with fail
    refine (ops_bytes a2 q c2 g _ _ hq S2.out (HG.out.upd U1.out (fun c h => h.elim))).mono ?_
    rintro e w2 ⟨z2, hz2, rfl, hu2⟩
    have U2 := Lib.hid (U1.out.trans hu2)
    clear hu2 U1
    by_cases hsum : z1 + z2 ≤ 1048576
    case neg =>
      go_wp2
      go_ret
      exact ⟨rfl, U2.out.below (Nat.le_refl _) (fun _ h => h.elim)⟩
    by_cases hx1 : -9007199254740992 ≤ x
    case neg =>
      go_wp2
      go_ret
      exact ⟨rfl, U2.out.below (Nat.le_refl _) (fun _ h => h.elim)⟩
    by_cases hx2 : x ≤ 9007199254740992
    case neg =>
      go_wp2
      go_ret
      exact ⟨rfl, U2.out.below (Nat.le_refl _) (fun _ h => h.elim)⟩
    go_wp2_with fail
    go_loopw [7] (fun iv wr => ∃ j : Nat, j ≤ n ∧ iv = .int .i64 j ∧ Upd (fun _ => False) w wr ∧ ∀ m, m < j → Sto (f m)) (fun iv _ => n - (intOf iv).toNat)
    case atStart => exact ⟨0, Nat.zero_le _, rfl, U2.out, fun m h => absurd h (by omega)⟩
    case round =>
      obtain ⟨j, hj, rfl, hu, hs⟩ := hrel
      have HU := Lib.hid hu
      have HS := Lib.hid hs
      clear hu hs
      by_cases hlt : j < n
      · obtain ⟨b, off, rfl, hr, -⟩ := (HF.out.upd HU.out (fun c h => h.elim)).row hlt
        have HR := Lib.hid hr
        have i1 : (0 : Int) ≤ (j : Int) := by omega
        have i2 : (j : Int) < (n : Int) := by omega
        clear hr
        go_wp2_with (refine wpList_load_mid rfl 28 (.tmp 54) rfl b (off + j * 5) rfl (f j).cells _ HR.out Tryz.underlying28 rfl info_rop ?_)
        refine (storable (f j) _).mono ?_
        rintro e w3 ⟨b, rfl, hu3, hb3⟩
        have U3 := Lib.hid (HU.out.trans hu3)
        cases b with
        | false =>
          clear hb3 hu3
          go_wp2
          go_ret
          exact ⟨rfl, U3.out.below (Nat.le_refl _) (fun _ h => h.elim)⟩
        | true =>
          have HB3 := Lib.hid (hb3 rfl)
          clear hb3 hu3
          go_wp2
          go_roundw
          case rel =>
            refine ⟨j + 1, by omega, by go_num, U3.out, fun m hm => ?_⟩
            by_cases e : m = j
            · subst e; exact HB3.out
            · exact HS.out m (by omega)
          case measure => simp [intOf]; omega
      · obtain rfl : j = n := by omega
        have SO := Lib.hid HS.out
        have U3 := Lib.hid HU.out
        clear HS HU U2 S1 S2 hsum
        go_wp2_with fail
        refine (clone_ops a1 j c1 f _ hn _ (HF.out.upd U3.out (fun c h => h.elim))).mono ?_
        rintro e w4 ⟨a1, c1, rfl, hu4, h1⟩
        have U4 := Lib.hid (U3.out.trans hu4)
        have H1 := Lib.hid h1
        clear hu4 h1 U3
        go_wp2_with fail
        refine (clone_ops a2 q c2 g _ hq _ (HG.out.upd U4.out (fun c h => h.elim))).mono ?_
        rintro e w5 ⟨a2, c2, rfl, hu5, h2⟩
        have U5 := Lib.hid (U4.out.trans hu5)
        have H1 := Lib.hid ((H1.out.upd hu5 (fun c h => h.elim)).mono hu5.size)
        have H2 := Lib.hid h2
        clear hu5 h2 U4 HF HG
        obtain ⟨w6, hw6⟩ : ∃ w6 : World, w6 = w5 := ⟨_, rfl⟩
        rw [← hw6] at U5 H1 H2
        have U6 := Lib.hid U5.out
        clear U5
        subst hw6
        go_wp2_with fail
        refine (new_table _ _).mono ?_
        rintro e w8 ⟨T, A, m, rfl, hn8⟩
        have U8 := Lib.hid (show Upd (fun _ => False) w6 w8 from ((Upd.refl _ _).alloc _).trans hn8.upd)
        have hfp := new_fp hn8
        have FP := Lib.hid (show ∀ c, Fp ⟨T, .slice (some ⟨A, 0, none⟩) 0 32, none, m, .slice none 0 0, none⟩ c → w6.heap.size ≤ c from fun c h => by have := hfp c h; rw [World.size_alloc] at this; omega)
        have TB := Lib.hid (Tab.new hn8)
        clear hn8 hfp
        obtain ⟨La, hLa⟩ : ∃ La, La = w6.heap.size := ⟨_, rfl⟩
        go_wp2_with fail
        rw [← hLa]
        clear hLa
        go_loopw [10] (fun iv wr => ∃ (i : Nat) (t : Tbs) (S : St) (ks : List Value) (ix : List MapEntry), i ≤ j ∧ iv = .int .i64 i ∧ t.T = T ∧ Upd (fun _ => False) w6 wr ∧ (∀ c, Fp t c → w6.heap.size ≤ c) ∧ Tab wr t nilw S ks ix ∧ RanO f i S ∧ S.arr.length ≤ 65536 ∧ ks.length ≤ i) (fun iv _ => j - (intOf iv).toNat)
        case atStart => exact ⟨0, _, ⟨[], [], []⟩, [], [], Nat.zero_le _, rfl, rfl, U8.out, FP.out, TB.out, ranO_zero _, by simp, by simp⟩
        case round =>
          obtain ⟨i, t, S, ks, ix, hi, rfl, hT, hu9, hf9, ht9, hr9, hl9, hk9⟩ := hrel
          have V9 := Lib.hid hu9
          have F9 := Lib.hid hf9
          have T9 := Lib.hid ht9
          have R9 := Lib.hid hr9
          have hTT := Lib.hid hT
          clear hu9 hf9 ht9 hr9 hT U8 FP TB
          by_cases hlt : i < j
          · obtain ⟨b, off, rfl, hr, -⟩ := (H1.out.upd V9.out (fun c h => h.elim)).row hlt
            have HR := Lib.hid hr
            have i1 : (0 : Int) ≤ (i : Int) := by omega
            have i2 : (i : Int) < (j : Int) := by omega
            have C := raw_set_op (some ⟨La, 0, none⟩) (f i) t nilw S ks ix wr (SO.out i hlt) (by omega) hl9 T9.out
            rw [hTT.out] at C
            have CC := Lib.hid C
            clear hr C
            go_wp2_with (refine wpList_load_mid rfl 28 (.tmp 76) rfl b (off + i * 5) rfl (f i).cells _ HR.out Tryz.underlying28 rfl info_rop ?_)
            refine CC.out.mono ?_
            rintro e w' ⟨rfl, t', S', ks', ix', g1, g2, g3, g4, g5, g6, g7⟩
            have G := Lib.hid (show t'.T = T ∧ Upd (fun _ => False) w6 w' ∧ (∀ c, Fp t' c → w6.heap.size ≤ c) ∧ Tab w' t' nilw S' ks' ix' ∧ RanO f (i + 1) S' ∧ S'.arr.length ≤ 65536 ∧ ks'.length ≤ i + 1 from
              ⟨g1.trans hTT.out, V9.out.trans_new g2 F9.out, fun c hc => by
                rcases g3 c hc with h | h
                · exact F9.out c h
                · have := V9.out.size; omega, g4, R9.out.next g5, by omega, by omega⟩)
            clear g1 g2 g3 g4 g5 g6 g7 CC
            go_wp2
            go_roundw
            case rel => exact ⟨i + 1, t', S', ks', ix', by omega, by go_num, G.out.1, G.out.2.1, G.out.2.2.1, G.out.2.2.2.1, G.out.2.2.2.2.1, G.out.2.2.2.2.2.1, G.out.2.2.2.2.2.2⟩
            case measure => simp [intOf]; omega
          · obtain rfl : i = j := by omega
            obtain ⟨n, hnn⟩ : ∃ n, n = i := ⟨_, rfl⟩
            subst hnn
            obtain ⟨w9, hw9⟩ : ∃ w9 : World, w9 = wr := ⟨_, rfl⟩
            subst hw9
            clear hlt
            have CG0 := Lib.hid (show ∀ (b : Nat) (W : World), Tab W t nilw S ks ix → Calls Tryz.prog 20 #[.pointer (some ⟨La, 0, none⟩), .pointer (some ⟨T, 0, none⟩), .iface 53 (.float .f64 b)] W fun e w' => e = .returned (ran f n (.num b)) ∧ Upd (fun _ => False) W w' from fun b W hW => by
              have C := l_get_num (some ⟨La, 0, none⟩) t nilw S ks ix b W hW
              rw [hTT.out, R9.out] at C
              exact C.mono (fun e w' ⟨m, h1, h2⟩ => ⟨h1, by rw [h2]; exact (Upd.refl _ _).drewN m⟩))
            have CI := Lib.hid (show ∀ (W : World), Tab W t nilw S ks ix → Calls Tryz.prog 21 #[.pointer (some ⟨La, 0, none⟩), .pointer (some ⟨T, 0, none⟩), .int .i64 x] W fun e w' => e = .returned (got S x) ∧ W = w' from fun W hW => by
              have C := l_get_int (some ⟨La, 0, none⟩) t nilw S ks ix x W hl9 (by omega) hW
              rw [hTT.out] at C
              exact C)
            have hin : 1 ≤ x ∧ x < 67108864 → got S x = ran f n (.num (FloatKind.f64.nearest x)) := fun hx => by
              rw [← R9.out, holds_arr (i := x.toNat - 1) (by rw [Fl.akey_int (by omega), if_pos hx, show x.toNat - 1 + 1 = x.toNat by omega])]
              unfold got
              rw [if_pos hx, show (x - 1).toNat = x.toNat - 1 by omega]
            have hout : ¬ (1 ≤ x ∧ x < 67108864) → got S x = nilw := fun hx => by unfold got; rw [if_neg hx]
            obtain ⟨va, hva⟩ : ∃ va, ran f n (.num (FloatKind.f64.nearest x)) = va := ⟨_, rfl⟩
            obtain ⟨vz, hvz⟩ : ∃ vz, ran f n (.num 0) = vz := ⟨_, rfl⟩
            have VA := Lib.hid (show IsStr1 va from hva ▸ ran_is f n _)
            have VZ := Lib.hid (show IsStr1 vz from hvz ▸ ran_is f n _)
            have CA := CG0.out (FloatKind.f64.nearest x)
            rw [hva] at CA
            have hneg : ∀ w, (Op.unary .neg (.float .f64 0)).run Tryz.prog w = .ok (.float .f64 9223372036854775808) w := fun w => by kernel_rfl
            have CZ := CG0.out 0
            rw [hvz] at CZ
            have CY := CG0.out 9223372036854775808
            rw [ran_congr f n (p := .num 9223372036854775808) (q := .num 0) (by decide +kernel), hvz] at CY
            have CA := Lib.hid CA
            have CZ := Lib.hid CZ
            have CY := Lib.hid CY
            rw [hva] at hin
            have hcv := run_i2f 3 26 Tryz.underlying3 Tryz.underlying26 x
            clear hva hvz CG0
            go_wp2_with fail
            refine (CA.out _ T9.out).mono ?_
            rintro e w10 ⟨rfl, hu10⟩
            have V9 := Lib.hid (V9.out.trans hu10)
            have T9 := Lib.hid (T9.out.upd hu10 (fun _ _ h => h))
            clear hu10
            by_cases hx : 1 ≤ x ∧ x < 67108864
            · rw [hin hx] at CI
              clear hin hout
              go_wp2_with fail
              refine (CI.out _ T9.out).mono ?_
              rintro e w' ⟨rfl, rfl⟩
              obtain ⟨hx3, hx4⟩ := hx
              go_wp2_with fail
              refine (same_value va VA.out _).mono ?_
              rintro e w' ⟨rfl, rfl⟩
              go_wp2_with fail
              refine (CZ.out _ T9.out).mono ?_
              rintro e w11 ⟨rfl, hu11⟩
              have V9 := Lib.hid (V9.out.trans hu11)
              have T9 := Lib.hid (T9.out.upd hu11 (fun _ _ h => h))
              clear hu11
              go_wp2_with fail
              refine (CY.out _ T9.out).mono ?_
              rintro e w12 ⟨rfl, hu12⟩
              have V9 := Lib.hid (V9.out.trans hu12)
              have T9 := Lib.hid (T9.out.upd hu12 (fun _ _ h => h))
              clear hu12 CZ CY
              go_wp2_with fail
              refine (same_value vz VZ.out _).mono ?_
              rintro e w' ⟨rfl, rfl⟩
              go_wp2_with fail
              go_loopw [15] (fun iv wr => ∃ i : Nat, i ≤ n ∧ iv = .int .i64 i ∧ Upd (fun _ => False) w12 wr) (fun iv _ => n - (intOf iv).toNat)
              case atStart => exact ⟨0, Nat.zero_le _, rfl, Upd.refl _ _⟩
              case round =>
                obtain ⟨i, hi, rfl, hu10⟩ := hrel
                have U10 := Lib.hid hu10
                clear hu10
                by_cases hlt : i < n
                · obtain ⟨b, off, rfl, hr, -⟩ := (H1.out.upd (V9.out.trans U10.out) (fun c h => h.elim)).row hlt
                  have HR := Lib.hid hr
                  have i1 : (0 : Int) ≤ (i : Int) := by omega
                  have i2 : (i : Int) < (n : Int) := by omega
                  have CG := Lib.hid (show ∀ W, Upd (fun _ => False) wr W → Calls Tryz.prog 18 #[.pointer (some ⟨La, 0, none⟩), .pointer (some ⟨T, 0, none⟩), .agg (f i).cells.toArray] W fun e w' => e = .returned (ran f n (f i).key) ∧ Upd (fun _ => False) W w' from fun W hW => by
                    have C := raw_get_op (some ⟨La, 0, none⟩) (f i) t nilw S ks ix W (T9.out.upd (U10.out.trans hW) (fun _ _ h => h))
                    rw [hTT.out, R9.out] at C
                    exact C)
                  obtain ⟨gv, hgv⟩ : ∃ gv, ran f n (f i).key = gv := ⟨_, rfl⟩
                  have GV := Lib.hid (show IsStr1 gv from hgv ▸ ran_is f n _)
                  rw [hgv] at CG
                  clear hr hgv
                  go_wp2_with (refine wpList_load_mid rfl 28 (.tmp 126) rfl b (off + i * 5) rfl (f i).cells _ HR.out Tryz.underlying28 rfl info_rop ?_)
                  refine (CG.out _ (Upd.refl _ _)).mono ?_
                  rintro e W1 ⟨rfl, hv1⟩
                  have HV1 := Lib.hid hv1
                  obtain ⟨b', off', he, hr, -⟩ := (H1.out.upd (V9.out.trans (U10.out.trans hv1)) (fun c h => h.elim)).row hlt
                  cases he
                  have HR1 := Lib.hid hr
                  clear hr hv1
                  go_wp2_with (refine wpList_load_mid rfl 28 (.tmp 133) rfl b (off + i * 5) rfl (f i).cells _ HR1.out Tryz.underlying28 rfl info_rop ?_)
                  refine (CG.out _ HV1.out).mono ?_
                  rintro e W2 ⟨rfl, hv2⟩
                  have U11 := Lib.hid (U10.out.trans (HV1.out.trans hv2))
                  clear hv2
                  go_wp2_with fail
                  refine (same_value gv GV.out _).mono ?_
                  rintro e w' ⟨rfl, rfl⟩
                  go_wp2
                  go_roundw
                  case rel => exact ⟨i + 1, by omega, by go_num, U11.out⟩
                  case measure => simp [intOf]; omega
                · obtain rfl : i = n := by omega
                  obtain ⟨n, hnn⟩ : ∃ n, n = i := ⟨_, rfl⟩
                  subst hnn
                  have V9 := Lib.hid (V9.out.trans U10.out)
                  have T9 := Lib.hid (T9.out.upd U10.out (fun _ _ h => h))
                  clear U10
                  obtain ⟨w14, hw14⟩ : ∃ w14 : World, w14 = wr := ⟨_, rfl⟩
                  subst hw14
                  go_wp2_with fail
                  go_loopw [18] (fun iv wr => ∃ i : Nat, i ≤ q ∧ iv = .int .i64 i ∧ Upd (fun _ => False) w14 wr) (fun iv _ => q - (intOf iv).toNat)
                  case atStart => exact ⟨0, Nat.zero_le _, rfl, Upd.refl _ _⟩
                  case round =>
                    obtain ⟨i, hi, rfl, hu10⟩ := hrel
                    have U10 := Lib.hid hu10
                    clear hu10
                    by_cases hlt : i < q
                    · obtain ⟨b, off, rfl, hr, -⟩ := (H2.out.upd (V9.out.trans U10.out) (fun c h => h.elim)).row hlt
                      have HR := Lib.hid hr
                      have i1 : (0 : Int) ≤ (i : Int) := by omega
                      have i2 : (i : Int) < (q : Int) := by omega
                      have CG := Lib.hid (show ∀ W, Upd (fun _ => False) wr W → Calls Tryz.prog 18 #[.pointer (some ⟨La, 0, none⟩), .pointer (some ⟨T, 0, none⟩), .agg (g i).cells.toArray] W fun e w' => e = .returned (ran f n (g i).key) ∧ Upd (fun _ => False) W w' from fun W hW => by
                        have C := raw_get_op (some ⟨La, 0, none⟩) (g i) t nilw S ks ix W (T9.out.upd (U10.out.trans hW) (fun _ _ h => h))
                        rw [hTT.out, R9.out] at C
                        exact C)
                      obtain ⟨gv, hgv⟩ : ∃ gv, ran f n (g i).key = gv := ⟨_, rfl⟩
                      have GV := Lib.hid (show IsStr1 gv from hgv ▸ ran_is f n _)
                      rw [hgv] at CG
                      clear hr hgv
                      go_wp2_with (refine wpList_load_mid rfl 28 (.tmp 150) rfl b (off + i * 5) rfl (g i).cells _ HR.out Tryz.underlying28 rfl info_rop ?_)
                      refine (CG.out _ (Upd.refl _ _)).mono ?_
                      rintro e W1 ⟨rfl, hv1⟩
                      have HV1 := Lib.hid hv1
                      obtain ⟨b', off', he, hr, -⟩ := (H2.out.upd (V9.out.trans (U10.out.trans hv1)) (fun c h => h.elim)).row hlt
                      cases he
                      have HR1 := Lib.hid hr
                      clear hr hv1
                      go_wp2_with (refine wpList_load_mid rfl 28 (.tmp 157) rfl b (off + i * 5) rfl (g i).cells _ HR1.out Tryz.underlying28 rfl info_rop ?_)
                      refine (CG.out _ HV1.out).mono ?_
                      rintro e W2 ⟨rfl, hv2⟩
                      have U11 := Lib.hid (U10.out.trans (HV1.out.trans hv2))
                      clear hv2
                      go_wp2_with fail
                      refine (same_value gv GV.out _).mono ?_
                      rintro e w' ⟨rfl, rfl⟩
                      go_wp2
                      go_roundw
                      case rel => exact ⟨i + 1, by omega, by go_num, U11.out⟩
                      case measure => simp [intOf]; omega
                    · obtain rfl : i = q := by omega
                      obtain ⟨q, hnn⟩ : ∃ q, q = i := ⟨_, rfl⟩
                      subst hnn
                      have V9 := Lib.hid (V9.out.trans U10.out)
                      have T9 := Lib.hid (T9.out.upd U10.out (fun _ _ h => h))
                      clear U10
                      go_wp2_with fail
                      refine (CA.out _ T9.out).mono ?_
                      rintro e w13 ⟨rfl, hu13⟩
                      have V13 := Lib.hid (V9.out.trans hu13)
                      clear hu13
                      go_wp2_with fail
                      refine (same_value va VA.out _).mono ?_
                      rintro e w' ⟨rfl, rfl⟩
                      go_wp2
                      go_ret
                      exact ⟨rfl, (U6.out.trans V13.out).below (Nat.le_refl _) (fun _ h => h.elim)⟩
            · rw [hout hx] at CI
              clear hin hout
              go_wp2_with fail
              refine (CI.out _ T9.out).mono ?_
              rintro e w' ⟨rfl, rfl⟩
              by_cases hx3 : 1 ≤ x
              · have hx4 : ¬ x < 67108864 := fun h => hx ⟨hx3, h⟩
                clear hx
                go_wp2_with fail
                refine (reads_nil _).mono ?_
                rintro e w' ⟨rfl, rfl⟩
                go_wp2_with fail
                refine (CZ.out _ T9.out).mono ?_
                rintro e w11 ⟨rfl, hu11⟩
                have V9 := Lib.hid (V9.out.trans hu11)
                have T9 := Lib.hid (T9.out.upd hu11 (fun _ _ h => h))
                clear hu11
                go_wp2_with fail
                refine (CY.out _ T9.out).mono ?_
                rintro e w12 ⟨rfl, hu12⟩
                have V9 := Lib.hid (V9.out.trans hu12)
                have T9 := Lib.hid (T9.out.upd hu12 (fun _ _ h => h))
                clear hu12 CZ CY
                go_wp2_with fail
                refine (same_value vz VZ.out _).mono ?_
                rintro e w' ⟨rfl, rfl⟩
                go_wp2_with fail
                go_loopw [15] (fun iv wr => ∃ i : Nat, i ≤ n ∧ iv = .int .i64 i ∧ Upd (fun _ => False) w12 wr) (fun iv _ => n - (intOf iv).toNat)
                case atStart => exact ⟨0, Nat.zero_le _, rfl, Upd.refl _ _⟩
                case round =>
                  obtain ⟨i, hi, rfl, hu10⟩ := hrel
                  have U10 := Lib.hid hu10
                  clear hu10
                  by_cases hlt : i < n
                  · obtain ⟨b, off, rfl, hr, -⟩ := (H1.out.upd (V9.out.trans U10.out) (fun c h => h.elim)).row hlt
                    have HR := Lib.hid hr
                    have i1 : (0 : Int) ≤ (i : Int) := by omega
                    have i2 : (i : Int) < (n : Int) := by omega
                    have CG := Lib.hid (show ∀ W, Upd (fun _ => False) wr W → Calls Tryz.prog 18 #[.pointer (some ⟨La, 0, none⟩), .pointer (some ⟨T, 0, none⟩), .agg (f i).cells.toArray] W fun e w' => e = .returned (ran f n (f i).key) ∧ Upd (fun _ => False) W w' from fun W hW => by
                      have C := raw_get_op (some ⟨La, 0, none⟩) (f i) t nilw S ks ix W (T9.out.upd (U10.out.trans hW) (fun _ _ h => h))
                      rw [hTT.out, R9.out] at C
                      exact C)
                    obtain ⟨gv, hgv⟩ : ∃ gv, ran f n (f i).key = gv := ⟨_, rfl⟩
                    have GV := Lib.hid (show IsStr1 gv from hgv ▸ ran_is f n _)
                    rw [hgv] at CG
                    clear hr hgv
                    go_wp2_with (refine wpList_load_mid rfl 28 (.tmp 126) rfl b (off + i * 5) rfl (f i).cells _ HR.out Tryz.underlying28 rfl info_rop ?_)
                    refine (CG.out _ (Upd.refl _ _)).mono ?_
                    rintro e W1 ⟨rfl, hv1⟩
                    have HV1 := Lib.hid hv1
                    obtain ⟨b', off', he, hr, -⟩ := (H1.out.upd (V9.out.trans (U10.out.trans hv1)) (fun c h => h.elim)).row hlt
                    cases he
                    have HR1 := Lib.hid hr
                    clear hr hv1
                    go_wp2_with (refine wpList_load_mid rfl 28 (.tmp 133) rfl b (off + i * 5) rfl (f i).cells _ HR1.out Tryz.underlying28 rfl info_rop ?_)
                    refine (CG.out _ HV1.out).mono ?_
                    rintro e W2 ⟨rfl, hv2⟩
                    have U11 := Lib.hid (U10.out.trans (HV1.out.trans hv2))
                    clear hv2
                    go_wp2_with fail
                    refine (same_value gv GV.out _).mono ?_
                    rintro e w' ⟨rfl, rfl⟩
                    go_wp2
                    go_roundw
                    case rel => exact ⟨i + 1, by omega, by go_num, U11.out⟩
                    case measure => simp [intOf]; omega
                  · obtain rfl : i = n := by omega
                    obtain ⟨n, hnn⟩ : ∃ n, n = i := ⟨_, rfl⟩
                    subst hnn
                    have V9 := Lib.hid (V9.out.trans U10.out)
                    have T9 := Lib.hid (T9.out.upd U10.out (fun _ _ h => h))
                    clear U10
                    obtain ⟨w14, hw14⟩ : ∃ w14 : World, w14 = wr := ⟨_, rfl⟩
                    subst hw14
                    go_wp2_with fail
                    go_loopw [18] (fun iv wr => ∃ i : Nat, i ≤ q ∧ iv = .int .i64 i ∧ Upd (fun _ => False) w14 wr) (fun iv _ => q - (intOf iv).toNat)
                    case atStart => exact ⟨0, Nat.zero_le _, rfl, Upd.refl _ _⟩
                    case round =>
                      obtain ⟨i, hi, rfl, hu10⟩ := hrel
                      have U10 := Lib.hid hu10
                      clear hu10
                      by_cases hlt : i < q
                      · obtain ⟨b, off, rfl, hr, -⟩ := (H2.out.upd (V9.out.trans U10.out) (fun c h => h.elim)).row hlt
                        have HR := Lib.hid hr
                        have i1 : (0 : Int) ≤ (i : Int) := by omega
                        have i2 : (i : Int) < (q : Int) := by omega
                        have CG := Lib.hid (show ∀ W, Upd (fun _ => False) wr W → Calls Tryz.prog 18 #[.pointer (some ⟨La, 0, none⟩), .pointer (some ⟨T, 0, none⟩), .agg (g i).cells.toArray] W fun e w' => e = .returned (ran f n (g i).key) ∧ Upd (fun _ => False) W w' from fun W hW => by
                          have C := raw_get_op (some ⟨La, 0, none⟩) (g i) t nilw S ks ix W (T9.out.upd (U10.out.trans hW) (fun _ _ h => h))
                          rw [hTT.out, R9.out] at C
                          exact C)
                        obtain ⟨gv, hgv⟩ : ∃ gv, ran f n (g i).key = gv := ⟨_, rfl⟩
                        have GV := Lib.hid (show IsStr1 gv from hgv ▸ ran_is f n _)
                        rw [hgv] at CG
                        clear hr hgv
                        go_wp2_with (refine wpList_load_mid rfl 28 (.tmp 150) rfl b (off + i * 5) rfl (g i).cells _ HR.out Tryz.underlying28 rfl info_rop ?_)
                        refine (CG.out _ (Upd.refl _ _)).mono ?_
                        rintro e W1 ⟨rfl, hv1⟩
                        have HV1 := Lib.hid hv1
                        obtain ⟨b', off', he, hr, -⟩ := (H2.out.upd (V9.out.trans (U10.out.trans hv1)) (fun c h => h.elim)).row hlt
                        cases he
                        have HR1 := Lib.hid hr
                        clear hr hv1
                        go_wp2_with (refine wpList_load_mid rfl 28 (.tmp 157) rfl b (off + i * 5) rfl (g i).cells _ HR1.out Tryz.underlying28 rfl info_rop ?_)
                        refine (CG.out _ HV1.out).mono ?_
                        rintro e W2 ⟨rfl, hv2⟩
                        have U11 := Lib.hid (U10.out.trans (HV1.out.trans hv2))
                        clear hv2
                        go_wp2_with fail
                        refine (same_value gv GV.out _).mono ?_
                        rintro e w' ⟨rfl, rfl⟩
                        go_wp2
                        go_roundw
                        case rel => exact ⟨i + 1, by omega, by go_num, U11.out⟩
                        case measure => simp [intOf]; omega
                      · obtain rfl : i = q := by omega
                        obtain ⟨q, hnn⟩ : ∃ q, q = i := ⟨_, rfl⟩
                        subst hnn
                        have V9 := Lib.hid (V9.out.trans U10.out)
                        have T9 := Lib.hid (T9.out.upd U10.out (fun _ _ h => h))
                        clear U10
                        go_wp2_with fail
                        refine (CA.out _ T9.out).mono ?_
                        rintro e w13 ⟨rfl, hu13⟩
                        have V13 := Lib.hid (V9.out.trans hu13)
                        clear hu13
                        go_wp2_with fail
                        refine (same_value va VA.out _).mono ?_
                        rintro e w' ⟨rfl, rfl⟩
                        go_wp2
                        go_ret
                        exact ⟨rfl, (U6.out.trans V13.out).below (Nat.le_refl _) (fun _ h => h.elim)⟩
              · clear hx
                go_wp2_with fail
                refine (reads_nil _).mono ?_
                rintro e w' ⟨rfl, rfl⟩
                go_wp2_with fail
                refine (CZ.out _ T9.out).mono ?_
                rintro e w11 ⟨rfl, hu11⟩
                have V9 := Lib.hid (V9.out.trans hu11)
                have T9 := Lib.hid (T9.out.upd hu11 (fun _ _ h => h))
                clear hu11
                go_wp2_with fail
                refine (CY.out _ T9.out).mono ?_
                rintro e w12 ⟨rfl, hu12⟩
                have V9 := Lib.hid (V9.out.trans hu12)
                have T9 := Lib.hid (T9.out.upd hu12 (fun _ _ h => h))
                clear hu12 CZ CY
                go_wp2_with fail
                refine (same_value vz VZ.out _).mono ?_
                rintro e w' ⟨rfl, rfl⟩
                go_wp2_with fail
                go_loopw [15] (fun iv wr => ∃ i : Nat, i ≤ n ∧ iv = .int .i64 i ∧ Upd (fun _ => False) w12 wr) (fun iv _ => n - (intOf iv).toNat)
                case atStart => exact ⟨0, Nat.zero_le _, rfl, Upd.refl _ _⟩
                case round =>
                  obtain ⟨i, hi, rfl, hu10⟩ := hrel
                  have U10 := Lib.hid hu10
                  clear hu10
                  by_cases hlt : i < n
                  · obtain ⟨b, off, rfl, hr, -⟩ := (H1.out.upd (V9.out.trans U10.out) (fun c h => h.elim)).row hlt
                    have HR := Lib.hid hr
                    have i1 : (0 : Int) ≤ (i : Int) := by omega
                    have i2 : (i : Int) < (n : Int) := by omega
                    have CG := Lib.hid (show ∀ W, Upd (fun _ => False) wr W → Calls Tryz.prog 18 #[.pointer (some ⟨La, 0, none⟩), .pointer (some ⟨T, 0, none⟩), .agg (f i).cells.toArray] W fun e w' => e = .returned (ran f n (f i).key) ∧ Upd (fun _ => False) W w' from fun W hW => by
                      have C := raw_get_op (some ⟨La, 0, none⟩) (f i) t nilw S ks ix W (T9.out.upd (U10.out.trans hW) (fun _ _ h => h))
                      rw [hTT.out, R9.out] at C
                      exact C)
                    obtain ⟨gv, hgv⟩ : ∃ gv, ran f n (f i).key = gv := ⟨_, rfl⟩
                    have GV := Lib.hid (show IsStr1 gv from hgv ▸ ran_is f n _)
                    rw [hgv] at CG
                    clear hr hgv
                    go_wp2_with (refine wpList_load_mid rfl 28 (.tmp 126) rfl b (off + i * 5) rfl (f i).cells _ HR.out Tryz.underlying28 rfl info_rop ?_)
                    refine (CG.out _ (Upd.refl _ _)).mono ?_
                    rintro e W1 ⟨rfl, hv1⟩
                    have HV1 := Lib.hid hv1
                    obtain ⟨b', off', he, hr, -⟩ := (H1.out.upd (V9.out.trans (U10.out.trans hv1)) (fun c h => h.elim)).row hlt
                    cases he
                    have HR1 := Lib.hid hr
                    clear hr hv1
                    go_wp2_with (refine wpList_load_mid rfl 28 (.tmp 133) rfl b (off + i * 5) rfl (f i).cells _ HR1.out Tryz.underlying28 rfl info_rop ?_)
                    refine (CG.out _ HV1.out).mono ?_
                    rintro e W2 ⟨rfl, hv2⟩
                    have U11 := Lib.hid (U10.out.trans (HV1.out.trans hv2))
                    clear hv2
                    go_wp2_with fail
                    refine (same_value gv GV.out _).mono ?_
                    rintro e w' ⟨rfl, rfl⟩
                    go_wp2
                    go_roundw
                    case rel => exact ⟨i + 1, by omega, by go_num, U11.out⟩
                    case measure => simp [intOf]; omega
                  · obtain rfl : i = n := by omega
                    obtain ⟨n, hnn⟩ : ∃ n, n = i := ⟨_, rfl⟩
                    subst hnn
                    have V9 := Lib.hid (V9.out.trans U10.out)
                    have T9 := Lib.hid (T9.out.upd U10.out (fun _ _ h => h))
                    clear U10
                    obtain ⟨w14, hw14⟩ : ∃ w14 : World, w14 = wr := ⟨_, rfl⟩
                    subst hw14
                    go_wp2_with fail
                    go_loopw [18] (fun iv wr => ∃ i : Nat, i ≤ q ∧ iv = .int .i64 i ∧ Upd (fun _ => False) w14 wr) (fun iv _ => q - (intOf iv).toNat)
                    case atStart => exact ⟨0, Nat.zero_le _, rfl, Upd.refl _ _⟩
                    case round =>
                      obtain ⟨i, hi, rfl, hu10⟩ := hrel
                      have U10 := Lib.hid hu10
                      clear hu10
                      by_cases hlt : i < q
                      · obtain ⟨b, off, rfl, hr, -⟩ := (H2.out.upd (V9.out.trans U10.out) (fun c h => h.elim)).row hlt
                        have HR := Lib.hid hr
                        have i1 : (0 : Int) ≤ (i : Int) := by omega
                        have i2 : (i : Int) < (q : Int) := by omega
                        have CG := Lib.hid (show ∀ W, Upd (fun _ => False) wr W → Calls Tryz.prog 18 #[.pointer (some ⟨La, 0, none⟩), .pointer (some ⟨T, 0, none⟩), .agg (g i).cells.toArray] W fun e w' => e = .returned (ran f n (g i).key) ∧ Upd (fun _ => False) W w' from fun W hW => by
                          have C := raw_get_op (some ⟨La, 0, none⟩) (g i) t nilw S ks ix W (T9.out.upd (U10.out.trans hW) (fun _ _ h => h))
                          rw [hTT.out, R9.out] at C
                          exact C)
                        obtain ⟨gv, hgv⟩ : ∃ gv, ran f n (g i).key = gv := ⟨_, rfl⟩
                        have GV := Lib.hid (show IsStr1 gv from hgv ▸ ran_is f n _)
                        rw [hgv] at CG
                        clear hr hgv
                        go_wp2_with (refine wpList_load_mid rfl 28 (.tmp 150) rfl b (off + i * 5) rfl (g i).cells _ HR.out Tryz.underlying28 rfl info_rop ?_)
                        refine (CG.out _ (Upd.refl _ _)).mono ?_
                        rintro e W1 ⟨rfl, hv1⟩
                        have HV1 := Lib.hid hv1
                        obtain ⟨b', off', he, hr, -⟩ := (H2.out.upd (V9.out.trans (U10.out.trans hv1)) (fun c h => h.elim)).row hlt
                        cases he
                        have HR1 := Lib.hid hr
                        clear hr hv1
                        go_wp2_with (refine wpList_load_mid rfl 28 (.tmp 157) rfl b (off + i * 5) rfl (g i).cells _ HR1.out Tryz.underlying28 rfl info_rop ?_)
                        refine (CG.out _ HV1.out).mono ?_
                        rintro e W2 ⟨rfl, hv2⟩
                        have U11 := Lib.hid (U10.out.trans (HV1.out.trans hv2))
                        clear hv2
                        go_wp2_with fail
                        refine (same_value gv GV.out _).mono ?_
                        rintro e w' ⟨rfl, rfl⟩
                        go_wp2
                        go_roundw
                        case rel => exact ⟨i + 1, by omega, by go_num, U11.out⟩
                        case measure => simp [intOf]; omega
                      · obtain rfl : i = q := by omega
                        obtain ⟨q, hnn⟩ : ∃ q, q = i := ⟨_, rfl⟩
                        subst hnn
                        have V9 := Lib.hid (V9.out.trans U10.out)
                        have T9 := Lib.hid (T9.out.upd U10.out (fun _ _ h => h))
                        clear U10
                        go_wp2_with fail
                        refine (CA.out _ T9.out).mono ?_
                        rintro e w13 ⟨rfl, hu13⟩
                        have V13 := Lib.hid (V9.out.trans hu13)
                        clear hu13
                        go_wp2_with fail
                        refine (same_value va VA.out _).mono ?_
                        rintro e w' ⟨rfl, rfl⟩
                        go_wp2
                        go_ret
                        exact ⟨rfl, (U6.out.trans V13.out).below (Nat.le_refl _) (fun _ h => h.elim)⟩

set_option maxHeartbeats 1600000 in
theorem agr_long (a1 a2 : Option Addr) (n c1 q c2 : Nat) (f g : Nat → Rop) (x : Int) (w : World) (h0 : n ≤ 9223372036854775807) (h1 : q ≤ 9223372036854775807) (hl : ¬ (n ≤ 4096 ∧ q ≤ 4096)) (hf : Rops w w.heap.size a1 n f) (hg : Rops w w.heap.size a2 q g) :
    Calls Tryz.prog 4 #[.slice a1 n c1, .slice a2 q c2, .int .i64 x] w (Good w) := by
  have HF := Lib.hid hf
  have HG := Lib.hid hg
  clear hf hg
  go_enter Tryz.func4, Tryz.ntmps4
  go_wp2_with fail
  refine (guard_agr a1 a2 n c1 q c2 f g x _ _ h0 h1 HF.out HG.out).mono ?_
  rintro e w' ⟨b, rfl, rfl, hb⟩
  clear hb
  cases b with
  | false =>
    go_wp2
    go_ret
    exact ⟨rfl, Below.refl _ _⟩
  | true =>
    by_cases l0 : n ≤ 4096
    case neg =>
      go_wp2
      all_goals
        go_ret
        exact ⟨rfl, Below.refl _ _⟩
    have l1 : ¬ q ≤ 4096 := fun h => hl ⟨l0, h⟩
    clear hl
    go_wp2
    all_goals
      go_ret
      exact ⟨rfl, Below.refl _ _⟩
end Go.Proofs.YtlmadbgpllokfaaGreatFmt
