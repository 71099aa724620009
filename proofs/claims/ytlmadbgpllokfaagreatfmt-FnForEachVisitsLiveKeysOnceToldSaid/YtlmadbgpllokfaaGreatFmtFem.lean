/- Raw equality of keys; a table filled by numbers and texts: walked. -/
import Derived.Test.YtlmadbgpllokfaaGreatFmtLis
namespace Go.Proofs.YtlmadbgpllokfaaGreatFmt
open Go.RowKit Go.Mapy Go.Tbl
set_option maxRecDepth 100000

abbrev tnew (T A m : Nat) : Tbs := ⟨T, .slice (some ⟨A, 0, none⟩) 0 32, none, m, .slice none 0 0, none⟩
abbrev sn0 : St := ⟨[], [], []⟩

set_option maxHeartbeats 400000 in
theorem strg_type (s : ByteArray) (w : World) : Calls Tryz.prog 232 #[.string s] w fun e w' => e = .returned (.int .i64 3) ∧ w = w' := by
  go_enter Tryz.func232, Tryz.ntmps232
  go_wp2
  go_ret
  exact ⟨rfl, rfl⟩

@[go_sem] theorem asSTR_STRn (v : Value) (w : World) : (Instr.typeAssert (.iface 78 v) 49 78 false).run Tryz.prog w = .ok v w := by kernel_rfl
set_option maxHeartbeats 1600000 in
theorem equals_key (L : Option Addr) (a b : Key) (w : World) : Calls Tryz.prog 66 #[.pointer L, kval a, kval b, .bool true] w fun e w' => e = .returned (.bool (keq a b)) ∧ ∃ n, w' = w.drewN n := by
  cases a with
  | num x =>
    cases b with
    | num y =>
      rw [show kval (.num x) = Value.iface 53 (.float .f64 x) from rfl, show kval (.num y) = Value.iface 53 (.float .f64 y) from rfl]
      go_enter Tryz.func66, Tryz.ntmps66
      go_wp2_with fail
      refine (num_type x _).mono ?_
      rintro e w' ⟨rfl, rfl⟩
      go_wp2_with fail
      refine (num_type y _).mono ?_
      rintro e w' ⟨rfl, rfl⟩
      go_wp2
      go_ret
      exact ⟨rfl, 0, rfl⟩
    | str t =>
      rw [show kval (.num x) = Value.iface 53 (.float .f64 x) from rfl, show kval (.str t) = Value.iface 78 (.string t) from rfl]
      go_enter Tryz.func66, Tryz.ntmps66
      go_wp2_with fail
      refine (num_type x _).mono ?_
      rintro e w' ⟨rfl, rfl⟩
      go_wp2_with fail
      refine (strg_type t _).mono ?_
      rintro e w' ⟨rfl, rfl⟩
      go_wp2
      go_ret
      exact ⟨rfl, 0, rfl⟩
  | str s =>
    cases b with
    | num y =>
      rw [show kval (.num y) = Value.iface 53 (.float .f64 y) from rfl, show kval (.str s) = Value.iface 78 (.string s) from rfl]
      go_enter Tryz.func66, Tryz.ntmps66
      go_wp2_with fail
      refine (strg_type s _).mono ?_
      rintro e w' ⟨rfl, rfl⟩
      go_wp2_with fail
      refine (num_type y _).mono ?_
      rintro e w' ⟨rfl, rfl⟩
      go_wp2
      go_ret
      exact ⟨rfl, 0, rfl⟩
    | str t =>
      have hE := Lib.hid (list_beq s t)
      rw [show kval (.str s) = Value.iface 78 (.string s) from rfl, show kval (.str t) = Value.iface 78 (.string t) from rfl]
      go_enter Tryz.func66, Tryz.ntmps66
      go_wp2_with fail
      refine (strg_type s _).mono ?_
      rintro e w' ⟨rfl, rfl⟩
      go_wp2_with fail
      refine (strg_type t _).mono ?_
      rintro e w' ⟨rfl, rfl⟩
      go_wp2
      go_quiet (fail)
      go_wp2
      go_ret
      exact ⟨by rw [show keq (.str s) (.str t) = (s == t) from rfl, ← hE.out]; rfl, _, rfl⟩
set_option maxHeartbeats 400000 in
theorem raw_equal_key (L : Option Addr) (a b : Key) (w : World) : Calls Tryz.prog 35 #[.pointer L, kval a, kval b] w fun e w' => e = .returned (.bool (keq a b)) ∧ ∃ n, w' = w.drewN n := by
  have C := Lib.hid (equals_key L a b)
  obtain ⟨x, hx⟩ : ∃ x, kval a = x := ⟨_, rfl⟩
  obtain ⟨y, hy⟩ : ∃ y, kval b = y := ⟨_, rfl⟩
  rw [hx, hy] at C ⊢
  clear hx hy
  go_enter Tryz.func35, Tryz.ntmps35
  go_wp2_with fail
  refine (C.out _).mono ?_
  rintro e w1 ⟨rfl, hw⟩
  have HW := Lib.hid hw
  clear hw
  go_wp2
  go_ret
  exact ⟨rfl, HW.out⟩

/-- The mixed script: numbers first, then texts. -/
def mkey (ni : Nat) (ik : Nat → Int) (sk : Nat → ByteArray) (m : Nat) : Key := if m < ni then .num (FloatKind.f64.nearest (ik m)) else .str (sk (m - ni))
def mval (ni : Nat) (iv : Nat → Nat) (id : Nat → Bool) (sv : Nat → Nat) (sd : Nat → Bool) (m : Nat) : Value := if m < ni then vv iv id m else vv sv sd (m - ni)

/-- What the mixed script leaves. -/
def Mixed (w0 : World) (T ni ns : Nat) (ik : Nat → Int) (iv : Nat → Nat) (id : Nat → Bool) (sk : Nat → ByteArray) (sv : Nat → Nat) (sd : Nat → Bool) (w' : World) : Prop :=
  ∃ (t : Tbs) (S : St) (ks : List Value) (ix : List MapEntry), t.T = T ∧ Upd (fun _ => False) w0 w' ∧ (∀ c, Fp t c → w0.heap.size ≤ c) ∧ Tab w' t nilw S ks ix ∧ RanK (mkey ni ik sk) (mval ni iv id sv sd) (ni + ns) S ∧ S.arr.length ≤ 65536 ∧ ks.length ≤ ni + ns ∧ Ordr S ks ix

set_option maxHeartbeats 6400000 in
theorem build_mixed (L : Option Addr) (T A mp : Nat) (a1 a2 a3 a4 a5 a6 : Option Addr) (n1 c1 n2 c2 n3 c3 n4 c4 n5 c5 n6 c6 ni ns : Nat) (ik : Nat → Int) (vi : Nat → Nat) (id : Nat → Bool) (sk : Nat → ByteArray) (vs : Nat → Nat) (sd : Nat → Bool) (w0 w : World)
    (l1 : ni ≤ n1) (l2 : ni ≤ n2) (l3 : ni ≤ n3) (l4 : ns ≤ n4) (l5 : ns ≤ n5) (l6 : ns ≤ n6) (m1 : n1 ≤ 4096) (m4 : n4 ≤ 4096)
    (h1 : Held w0 w0.heap.size a1 n1 fun j => .int .i64 (ik j)) (h2 : Held w0 w0.heap.size a2 n2 fun j => .float .f64 (vi j)) (h3 : Held w0 w0.heap.size a3 n3 fun j => .bool (id j))
    (h4 : Held w0 w0.heap.size a4 n4 fun j => .string (sk j)) (h5 : Held w0 w0.heap.size a5 n5 fun j => .float .f64 (vs j)) (h6 : Held w0 w0.heap.size a6 n6 fun j => .bool (sd j))
    (hK : Keys ik ni) (hU : Upd (fun _ => False) w0 w) (hF : ∀ c, Fp (tnew T A mp) c → w0.heap.size ≤ c) (hT : Tab w (tnew T A mp) nilw sn0 [] []) :
    Calls Tryz.prog 51 #[.pointer L, .pointer (some ⟨T, 0, none⟩), .slice a1 n1 c1, .slice a2 n2 c2, .slice a3 n3 c3, .int .i64 ni, .slice a4 n4 c4, .slice a5 n5 c5, .slice a6 n6 c6, .int .i64 ns] w fun e w' => e = .returned (.tuple #[]) ∧ Mixed w0 T ni ns ik vi id sk vs sd w' := by
  have H1 := Lib.hid h1
  have H2 := Lib.hid h2
  have H3 := Lib.hid h3
  have H4 := Lib.hid h4
  have H5 := Lib.hid h5
  have H6 := Lib.hid h6
  have KO := Lib.hid hK
  have U8 := Lib.hid hU
  have FP := Lib.hid hF
  have TB := Lib.hid hT
  clear h1 h2 h3 h4 h5 h6 hK hU hF hT
  go_enter Tryz.func51, Tryz.ntmps51
  go_wp2
  go_loopw [20] (fun iv wr => ∃ (j : Nat) (t : Tbs) (S : St) (ks : List Value) (ix : List MapEntry), j ≤ ni ∧ iv = .int .i64 j ∧ t.T = T ∧ Upd (fun _ => False) w0 wr ∧ (∀ c, Fp t c → w0.heap.size ≤ c) ∧ Tab wr t nilw S ks ix ∧ RanK (mkey ni ik sk) (mval ni vi id vs sd) (j) S ∧ S.arr.length ≤ 65536 ∧ ks.length ≤ j ∧ Ordr S ks ix) (fun iv _ => ni - (intOf iv).toNat)
  case atStart => exact ⟨0, tnew T A mp, sn0, [], [], Nat.zero_le _, rfl, rfl, U8.out, FP.out, TB.out, ranK_zero _ _, by simp, by simp, ordr_nil⟩
  case round =>
    obtain ⟨j, t, S, ks, ix, hj, rfl, hT, hu9, hf9, ht9, hr9, hl9, hk9, ho9⟩ := hrel
    have U9 := Lib.hid hu9
    have F9 := Lib.hid hf9
    have T9 := Lib.hid ht9
    have R9 := Lib.hid hr9
    have O9 := Lib.hid ho9
    have hTT := Lib.hid hT
    clear hu9 hf9 ht9 hr9 ho9 hT U8 FP TB
    by_cases hlt : j < ni
    · obtain ⟨b1, off1, rfl, hc1⟩ := (H1.out.upd U9.out (fun c h => h.elim)).one (j := j) (by omega)
      obtain ⟨b3, off3, rfl, hc3⟩ := (H3.out.upd U9.out (fun c h => h.elim)).one (j := j) (by omega)
      have i1 : (0 : Int) ≤ (j : Int) := by omega
      have i2 : (j : Int) < (n1 : Int) := by omega
      have i3 : (j : Int) < (n2 : Int) := by omega
      have i4 : (j : Int) < (n3 : Int) := by omega
      have CW := Lib.hid (show ∀ wx : World, Upd (fun _ => False) wr wx → Calls Tryz.prog 72 #[.pointer L, .pointer (some ⟨T, 0, none⟩), .int .i64 (ik j), vv vi id j] wx (SetKeyO t nilw S ks ix (.num (FloatKind.f64.nearest (ik j))) (vv vi id j) wx) from fun wx hux => by
        have C := l_set_into L t nilw S ks ix (ik j) (vv vi id j) (id j) wx (vv_val vi id j) (KO.out j hlt).1 (KO.out j hlt).2 (by omega) hl9 (T9.out.upd hux (fun _ _ h => h))
        rw [hTT.out] at C
        exact C)
      have fin : ∀ wx : World, Upd (fun _ => False) wr wx → ∀ e w', SetKeyO t nilw S ks ix (.num (FloatKind.f64.nearest (ik j))) (vv vi id j) wx e w' → e = .returned (.tuple #[]) ∧ ∃ (t' : Tbs) (S' : St) (ks' : List Value) (ix' : List MapEntry), t'.T = T ∧ Upd (fun _ => False) w0 w' ∧ (∀ c, Fp t' c → w0.heap.size ≤ c) ∧ Tab w' t' nilw S' ks' ix' ∧ RanK (mkey ni ik sk) (mval ni vi id vs sd) (j + 1) S' ∧ S'.arr.length ≤ 65536 ∧ ks'.length ≤ j + 1 ∧ Ordr S' ks' ix' := fun wx hux e w' ⟨he, t', S', ks', ix', h1, h2, h3, h4, h5, h6, h7, h8⟩ =>
        ⟨he, t', S', ks', ix', h1.trans hTT.out, (U9.out.trans hux).trans_new h2 F9.out, fun c hc => by
          rcases h3 c hc with h | h
          · exact F9.out c h
          · have := U9.out.size; have := hux.size; omega, h4, R9.out.next (fun q => by rw [show mkey ni ik sk j = _ by unfold mkey; rw [if_pos hlt], show mval ni vi id vs sd j = _ by unfold mval; rw [if_pos hlt]]; exact h5 q), by omega, by omega, h8 O9.out⟩
      have FIN := Lib.hid fin
      clear fin
      cases hdj : id j with
      | true =>
        rw [hdj] at hc3
        have HVV := Lib.hid (show vv vi id j = .iface 69 (.int .u8 0) by unfold vv; rw [hdj]; rfl)
        have CC := Lib.hid (CW.out wr (Upd.refl _ _))
        rw [HVV.out] at CC
        clear CW
        go_wp2_with fail
        refine CC.out.mono ?_
        intro e w' hs
        obtain ⟨rfl, t', S', ks', ix', g1, g2, g3, g4, g5, g6, g7, g8⟩ := FIN.out wr (Upd.refl _ _) e w' (by
          rw [HVV.out]
          exact hs)
        have G := Lib.hid (⟨g1, g2, g3, g4, g5, g6, g7, g8⟩ : _ ∧ _ ∧ _ ∧ _ ∧ _ ∧ _ ∧ _ ∧ _)
        clear hs g1 g2 g3 g4 g5 g6 g7 g8
        go_wp2
        go_roundw
        case rel => exact ⟨j + 1, t', S', ks', ix', by omega, by go_num, G.out.1, G.out.2.1, G.out.2.2.1, G.out.2.2.2.1, G.out.2.2.2.2.1, G.out.2.2.2.2.2.1, G.out.2.2.2.2.2.2.1, G.out.2.2.2.2.2.2.2⟩
        case measure => simp [intOf]; omega
      | false =>
        rw [hdj] at hc3
        obtain ⟨b2, off2, rfl, hc2⟩ := (H2.out.upd U9.out (fun c h => h.elim)).one (j := j) (by omega)
        have HVV := Lib.hid (show vv vi id j = .iface 53 (.float .f64 (vi j)) by unfold vv; rw [hdj]; rfl)
        go_wp2_with fail
        refine wp_region_tail_at 11 (by kernel_rfl) (by kernel_rfl) (fun W1 hW1 => ?_)
        have UW := Lib.hid (show Upd (fun _ => False) wr W1 by rw [hW1]; exact (Upd.refl _ _).drew)
        have hc1 : W1.cell? ⟨b1, off1 + j, none⟩ = some (.int .i64 (ik j)) := by rw [hW1]; exact hc1
        have hc2 : W1.cell? ⟨b2, off2 + j, none⟩ = some (.float .f64 (vi j)) := by rw [hW1]; exact hc2
        have CC := Lib.hid (CW.out W1 UW.out)
        rw [HVV.out] at CC
        clear CW hW1
        simp only [List.take_succ_cons, List.take_zero, List.drop_succ_cons, List.drop_zero]
        repeat still_step
        refine wpStill_nil ?_
        go_wp2_with fail
        refine CC.out.mono ?_
        intro e w' hs
        obtain ⟨rfl, t', S', ks', ix', g1, g2, g3, g4, g5, g6, g7, g8⟩ := FIN.out W1 UW.out e w' (by
          rw [HVV.out]
          exact hs)
        have G := Lib.hid (⟨g1, g2, g3, g4, g5, g6, g7, g8⟩ : _ ∧ _ ∧ _ ∧ _ ∧ _ ∧ _ ∧ _ ∧ _)
        clear hs g1 g2 g3 g4 g5 g6 g7 g8
        go_wp2
        go_roundw
        case rel => exact ⟨j + 1, t', S', ks', ix', by omega, by go_num, G.out.1, G.out.2.1, G.out.2.2.1, G.out.2.2.2.1, G.out.2.2.2.2.1, G.out.2.2.2.2.2.1, G.out.2.2.2.2.2.2.1, G.out.2.2.2.2.2.2.2⟩
        case measure => simp [intOf]; omega
    · obtain rfl : j = ni := by omega
      obtain ⟨ni, hnn⟩ : ∃ ni, ni = j := ⟨_, rfl⟩
      subst hnn
      clear hlt
      go_wp2_with fail
      go_loopw [21] (fun iv wr => ∃ (j : Nat) (t : Tbs) (S : St) (ks : List Value) (ix : List MapEntry), j ≤ ns ∧ iv = .int .i64 j ∧ t.T = T ∧ Upd (fun _ => False) w0 wr ∧ (∀ c, Fp t c → w0.heap.size ≤ c) ∧ Tab wr t nilw S ks ix ∧ RanK (mkey ni ik sk) (mval ni vi id vs sd) (ni + j) S ∧ S.arr.length ≤ 65536 ∧ ks.length ≤ ni + j ∧ Ordr S ks ix) (fun iv _ => ns - (intOf iv).toNat)
      case atStart => exact ⟨0, t, S, ks, ix, Nat.zero_le _, rfl, hTT.out, U9.out, F9.out, T9.out, R9.out, hl9, hk9, O9.out⟩
      case round =>
        obtain ⟨j, t, S, ks, ix, hj, rfl, hT, hu9, hf9, ht9, hr9, hl9, hk9, ho9⟩ := hrel
        have U9 := Lib.hid hu9
        have F9 := Lib.hid hf9
        have T9 := Lib.hid ht9
        have R9 := Lib.hid hr9
        have O9 := Lib.hid ho9
        have hTT := Lib.hid hT
        clear hu9 hf9 ht9 hr9 ho9 hT 
        by_cases hlt : j < ns
        · obtain ⟨b1, off1, rfl, hc1⟩ := (H4.out.upd U9.out (fun c h => h.elim)).one (j := j) (by omega)
          obtain ⟨b3, off3, rfl, hc3⟩ := (H6.out.upd U9.out (fun c h => h.elim)).one (j := j) (by omega)
          have i1 : (0 : Int) ≤ (j : Int) := by omega
          have i2 : (j : Int) < (n4 : Int) := by omega
          have i3 : (j : Int) < (n5 : Int) := by omega
          have i4 : (j : Int) < (n6 : Int) := by omega
          have CW := Lib.hid (show ∀ wx : World, Upd (fun _ => False) wr wx → Calls Tryz.prog 44 #[.pointer (some ⟨T, 0, none⟩), .string (sk j), vv vs sd j] wx (SetKeyO t nilw S ks ix (.str (sk j)) (vv vs sd j) wx) from fun wx hux => by
            have C := (set_string t nilw S ks ix (sk j) (vv vs sd j) (sd j) wx (vv_val vs sd j) (by omega) (T9.out.upd hux (fun _ _ h => h))).mono (fun _ _ hp => SetStr.keyO hp (vv_val vs sd j) (fun e he => (T9.out.fi.keys e he).1))
            rw [hTT.out] at C
            exact C)
          have fin : ∀ wx : World, Upd (fun _ => False) wr wx → ∀ e w', SetKeyO t nilw S ks ix (.str (sk j)) (vv vs sd j) wx e w' → e = .returned (.tuple #[]) ∧ ∃ (t' : Tbs) (S' : St) (ks' : List Value) (ix' : List MapEntry), t'.T = T ∧ Upd (fun _ => False) w0 w' ∧ (∀ c, Fp t' c → w0.heap.size ≤ c) ∧ Tab w' t' nilw S' ks' ix' ∧ RanK (mkey ni ik sk) (mval ni vi id vs sd) (ni + j + 1) S' ∧ S'.arr.length ≤ 65536 ∧ ks'.length ≤ ni + j + 1 ∧ Ordr S' ks' ix' := fun wx hux e w' ⟨he, t', S', ks', ix', h1, h2, h3, h4, h5, h6, h7, h8⟩ =>
            ⟨he, t', S', ks', ix', h1.trans hTT.out, (U9.out.trans hux).trans_new h2 F9.out, fun c hc => by
              rcases h3 c hc with h | h
              · exact F9.out c h
              · have := U9.out.size; have := hux.size; omega, h4, R9.out.next (fun q => by rw [show mkey ni ik sk (ni + j) = _ by unfold mkey; rw [if_neg (by omega), show ni + j - ni = j by omega], show mval ni vi id vs sd (ni + j) = _ by unfold mval; rw [if_neg (by omega), show ni + j - ni = j by omega]]; exact h5 q), by omega, by omega, h8 O9.out⟩
          have FIN := Lib.hid fin
          clear fin
          cases hdj : sd j with
          | true =>
            rw [hdj] at hc3
            have HVV := Lib.hid (show vv vs sd j = .iface 69 (.int .u8 0) by unfold vv; rw [hdj]; rfl)
            have CC := Lib.hid (CW.out wr (Upd.refl _ _))
            rw [HVV.out] at CC
            clear CW
            go_wp2_with fail
            refine CC.out.mono ?_
            intro e w' hs
            obtain ⟨rfl, t', S', ks', ix', g1, g2, g3, g4, g5, g6, g7, g8⟩ := FIN.out wr (Upd.refl _ _) e w' (by
              rw [HVV.out]
              exact hs)
            have G := Lib.hid (⟨g1, g2, g3, g4, g5, g6, g7, g8⟩ : _ ∧ _ ∧ _ ∧ _ ∧ _ ∧ _ ∧ _ ∧ _)
            clear hs g1 g2 g3 g4 g5 g6 g7 g8
            go_wp2
            go_roundw
            case rel => exact ⟨j + 1, t', S', ks', ix', by omega, by go_num, G.out.1, G.out.2.1, G.out.2.2.1, G.out.2.2.2.1, G.out.2.2.2.2.1, G.out.2.2.2.2.2.1, G.out.2.2.2.2.2.2.1, G.out.2.2.2.2.2.2.2⟩
            case measure => simp [intOf]; omega
          | false =>
            rw [hdj] at hc3
            obtain ⟨b2, off2, rfl, hc2⟩ := (H5.out.upd U9.out (fun c h => h.elim)).one (j := j) (by omega)
            have HVV := Lib.hid (show vv vs sd j = .iface 53 (.float .f64 (vs j)) by unfold vv; rw [hdj]; rfl)
            go_wp2_with fail
            refine wp_region_tail_at 10 (by kernel_rfl) (by kernel_rfl) (fun W1 hW1 => ?_)
            have UW := Lib.hid (show Upd (fun _ => False) wr W1 by rw [hW1]; exact (Upd.refl _ _).drew)
            have hc1 : W1.cell? ⟨b1, off1 + j, none⟩ = some (.string (sk j)) := by rw [hW1]; exact hc1
            have hc2 : W1.cell? ⟨b2, off2 + j, none⟩ = some (.float .f64 (vs j)) := by rw [hW1]; exact hc2
            have CC := Lib.hid (CW.out W1 UW.out)
            rw [HVV.out] at CC
            clear CW hW1
            simp only [List.take_succ_cons, List.take_zero, List.drop_succ_cons, List.drop_zero]
            repeat still_step
            refine wpStill_nil ?_
            go_wp2_with fail
            refine CC.out.mono ?_
            intro e w' hs
            obtain ⟨rfl, t', S', ks', ix', g1, g2, g3, g4, g5, g6, g7, g8⟩ := FIN.out W1 UW.out e w' (by
              rw [HVV.out]
              exact hs)
            have G := Lib.hid (⟨g1, g2, g3, g4, g5, g6, g7, g8⟩ : _ ∧ _ ∧ _ ∧ _ ∧ _ ∧ _ ∧ _ ∧ _)
            clear hs g1 g2 g3 g4 g5 g6 g7 g8
            go_wp2
            go_roundw
            case rel => exact ⟨j + 1, t', S', ks', ix', by omega, by go_num, G.out.1, G.out.2.1, G.out.2.2.1, G.out.2.2.2.1, G.out.2.2.2.2.1, G.out.2.2.2.2.2.1, G.out.2.2.2.2.2.2.1, G.out.2.2.2.2.2.2.2⟩
            case measure => simp [intOf]; omega
        · obtain rfl : j = ns := by omega
          go_wp2
          go_end0
          exact ⟨rfl, t, S, ks, ix, hTT.out, U9.out, F9.out, T9.out, R9.out, hl9, hk9, O9.out⟩
end Go.Proofs.YtlmadbgpllokfaaGreatFmt
