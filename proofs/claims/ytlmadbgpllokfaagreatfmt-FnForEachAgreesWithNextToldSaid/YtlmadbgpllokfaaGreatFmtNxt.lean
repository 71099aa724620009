/- RawGetH, isInteger, Next: walked. -/
import Derived.Test.YtlmadbgpllokfaaGreatFmtLis
import Derived.Test.YtlmadbgpllokfaaGreatFmtFl7
import Derived.Deep.DeepCutAuto
namespace Go.Proofs.YtlmadbgpllokfaaGreatFmt
open Go.RowKit Go.Mapy Go.Tbl
set_option maxRecDepth 100000

set_option maxHeartbeats 1600000 in
theorem get_h (t : Tbs) (mt : Value) (S : St) (ks : List Value) (ix : List MapEntry) (q : Key) (w : World) (h : Tab w t mt S ks ix) :
    Calls Tryz.prog 87 #[.pointer (some ⟨t.T, 0, none⟩), kval q] w fun e w' => e = .returned (valH S (kval q)) ∧ w = w' := by
  cases q with
  | str s =>
    have c3 := h.tb.at (o := 3) rfl
    obtain ⟨es0, c0, hms, hes⟩ := h.st
    have hsk : ∀ e ∈ es0.toList, IsStr e.key := fun e he => by rw [hes] at he; exact (h.fs.keys e he).1
    have K := str_run s es0.toList hsk
    have hv : valH S (kval (.str s)) = (cont seq (.string s) es0.toList).getD nilw := by rw [hes]; rfl
    unfold cont at hv
    rw [show kval (.str s) = Value.iface 78 (.string s) from rfl] at hv ⊢
    cases hsp : spot seq (.string s) es0.toList 0 with
    | some p =>
      have hl := look_some w Tryz.underlying86 hms K hsp true
      rw [hsp] at hv
      have E1 := Lib.hid hv
      clear h hms hes hsk K hsp hv
      go_enter Tryz.func87, Tryz.ntmps87
      go_wp2
      go_ret
      exact ⟨by rw [E1.out]; rfl, rfl⟩
    | none =>
      have hl := look_none (z := .nilIface) w Tryz.underlying86 (by kernel_rfl) hms K hsp true
      rw [hsp] at hv
      have E1 := Lib.hid hv
      clear h hms hes hsk K hsp hv
      go_enter Tryz.func87, Tryz.ntmps87
      go_wp2
      go_ret
      exact ⟨by rw [E1.out]; rfl, rfl⟩
  | num b =>
    have c2 := h.tb.at (o := 2) rfl
    have hv : valH S (kval (.num b)) = (cont keyEq (kval (.num b)) S.num).getD nilw := rfl
    unfold cont at hv
    cases hd : t.d with
    | none =>
      rw [hd] at c2
      have hnm := h.nm
      rw [hd] at hnm
      rw [show S.num = [] from hnm, show kval (.num b) = Value.iface 53 (.float .f64 b) from rfl] at hv
      rw [show kval (.num b) = Value.iface 53 (.float .f64 b) from rfl]
      have E1 := Lib.hid hv
      clear h hnm hd hv
      go_enter Tryz.func87, Tryz.ntmps87
      go_wp2
      go_ret
      exact ⟨by rw [E1.out]; rfl, rfl⟩
    | some D =>
      rw [hd] at c2
      obtain ⟨es0, c0, hms, hes⟩ : ∃ e c, w.heap[D]? = some (.map e c) ∧ e.toList = S.num := by
        have hnm := h.nm
        rw [hd] at hnm
        exact hnm
      have K := key_run (.num b) es0.toList (fun e he => by rw [hes] at he; exact (h.fn.keys e he).1)
      rw [← hes] at hv
      cases hsp : spot keyEq (kval (.num b)) es0.toList 0 with
      | some p =>
        have hl := look_some (k := kval (.num b)) w Tryz.underlying85 hms K hsp true
        rw [hsp] at hv
        rw [show kval (.num b) = Value.iface 53 (.float .f64 b) from rfl] at hl hv ⊢
        have E1 := Lib.hid hv
        clear h hms hes K hsp hd hv
        go_enter Tryz.func87, Tryz.ntmps87
        go_wp2
        go_ret
        exact ⟨by rw [E1.out]; rfl, rfl⟩
      | none =>
        have hl := look_none (k := kval (.num b)) (z := .nilIface) w Tryz.underlying85 (by kernel_rfl) hms K hsp true
        rw [hsp] at hv
        rw [show kval (.num b) = Value.iface 53 (.float .f64 b) from rfl] at hl hv ⊢
        have E1 := Lib.hid hv
        clear h hms hes K hsp hd hv
        go_enter Tryz.func87, Tryz.ntmps87
        go_wp2
        go_ret
        exact ⟨by rw [E1.out]; rfl, rfl⟩

set_option maxHeartbeats 800000 in
theorem is_int (z : Int) (hz : z.natAbs ≤ 9007199254740992) (w : World) : Calls Tryz.prog 86 #[.float .f64 (FloatKind.f64.nearest z)] w fun e w' => e = .returned (.bool true) ∧ w = w' := by
  have hcv : ∀ w, (convert 53 2 (.float .f64 (FloatKind.f64.nearest z))).run Tryz.prog w = .ok (.int .i64 z) w := fun w => run_convert_float_int _ _ _ _ _ _ _ (by rw [Tryz.underlying53]; rfl) Tryz.underlying2 (Fl.val_int hz)
  have hci := run_i2f 2 26 Tryz.underlying2 Tryz.underlying26 z
  have hself : (FloatKind.f64.format.order (FloatKind.f64.nearest z) (FloatKind.f64.nearest z) == some .eq) = true := by rw [beq_iff_eq]; exact (Fl.order_int hz hz).2 rfl
  clear hz
  obtain ⟨b, hb⟩ : ∃ b, FloatKind.f64.nearest z = b := ⟨_, rfl⟩
  rw [hb] at hcv hci hself ⊢
  clear hb
  go_enter Tryz.func86, Tryz.ntmps86
  go_wp2
  go_ret
  exact ⟨rfl, rfl⟩

/-- The first of a list of pairs; nil and nil where there is none. -/
def headP : List Pair → Pair
  | [] => (nilw, nilw)
  | p :: _ => p
/-- What Next answers. -/
def Nx (L : List Pair) (w : World) (e : Ending) (w' : World) : Prop := e = .returned (.tuple #[(headP L).1, (headP L).2]) ∧ w = w'

theorem keyP_dead {S : St} {ks : List Value} {i : Nat} {k : Value} (h : ks[i]? = some k) (hv : isNilw (valH S k) = true) : keyP S (ks.drop i) = keyP S (ks.drop (i + 1)) := by
  have hl : i < ks.length := (List.getElem?_eq_some_iff.1 h).1
  have hk : ks[i] = k := (List.getElem?_eq_some_iff.1 h).2
  rw [List.drop_eq_getElem_cons hl, hk]
  unfold keyP
  rw [List.filterMap_cons, live_no hv]
theorem keyP_live {S : St} {ks : List Value} {i : Nat} {k : Value} (h : ks[i]? = some k) (hv : isNilw (valH S k) = false) : keyP S (ks.drop i) = (k, valH S k) :: keyP S (ks.drop (i + 1)) := by
  have hl : i < ks.length := (List.getElem?_eq_some_iff.1 h).1
  have hk : ks[i] = k := (List.getElem?_eq_some_iff.1 h).2
  rw [List.drop_eq_getElem_cons hl, hk]
  unfold keyP
  rw [List.filterMap_cons, live_yes hv]
theorem keyP_end {S : St} {ks : List Value} : keyP S (ks.drop ks.length) = [] := by
  rw [List.drop_length]
  rfl

theorem nn_key (k : Key) (w : World) : (binOp .eql 49 (kval k) (.iface 69 (.int .u8 0))).run Tryz.prog w = .ok (.bool false) w := by
  cases k
  · exact ne_nil 53 _ (by decide) w
  · exact ne_nil 78 _ (by decide) w
theorem guard_key (k : Key) (op : BinOp) (x y : Operand) (v : Value) (w : World) : (eqGuard op 49 x y (kval k) v).run Tryz.prog w = .ok () w := by
  cases k <;> cases op <;> rfl
theorem nz_key (k : Key) (w : World) : (binOp .neq 49 (kval k) (kval (.num 0))).run Tryz.prog w = .ok (.bool (!keq k (.num 0))) w := by
  have h := eq_key k (.num 0) w
  cases k with
  | num b =>
    rw [show kval (.num b) = Value.iface 53 (.float .f64 b) from rfl, show kval (.num 0) = Value.iface 53 (.float .f64 0) from rfl] at h ⊢
    simp only [binOp]
    simp [h]
  | str s =>
    rw [show kval (.str s) = Value.iface 78 (.string s) from rfl, show kval (.num 0) = Value.iface 53 (.float .f64 0) from rfl] at h ⊢
    simp only [binOp]
    simp [h]
theorem hash_pos {S : St} {ks : List Value} {ix : List MapEntry} (h : Ordr S ks ix) {j : Nat} {k : Value} (hj : ks[j]? = some k) : ∃ p : Nat, spot keyEq k ix 0 = some (p, .int .i64 (j : Int)) := by
  have h1 := h.pos j k hj
  unfold cont at h1
  obtain ⟨p, hp, hv⟩ := Option.map_eq_some_iff.1 h1
  exact ⟨p.1, by rw [hp, ← hv]⟩
theorem len_mapN (w : World) {b c : Nat} {es : Array MapEntry} (hb : w.heap[b]? = some (.map es c)) (ty : TypeId) : (Builtin.len_ #[85] ty #[.map (some b)]).run Tryz.prog w = .ok (goInt es.size) w := by
  simp [Builtin.len_, run_underlying Tryz.underlying85, MapKept.run_getObj_map hb, Result.andThen]

set_option maxHeartbeats 6400000 in
theorem next_key (t : Tbs) (mt : Value) (S : St) (ks : List Value) (ix : List MapEntry) (w : World) (h : Tab w t mt S ks ix) (ho : Ordr S ks ix) (hkl : ks.length ≤ 1048576) (hnv : ∀ q, NV (holds S q)) (j : Nat) (q : Key) (hj : ks[j]? = some (kval q)) :
    Calls Tryz.prog 74 #[.pointer (some ⟨t.T, 0, none⟩), kval q] w (Nx (keyP S (ks.drop (j + 1))) w) := by
  have hjl : j < ks.length := (List.getElem?_eq_some_iff.1 hj).1
  obtain ⟨q', hq', hself, hh⟩ := ho.kv _ (List.mem_of_getElem? hj)
  have hqq : q' = q := by
    cases q <;> cases q' <;> cases hq' <;> rfl
  subst hqq
  have hnil := nn_key q'
  have hnz := nz_key q'
  have hgd := guard_key q'
  have KR := Lib.hid (key_run q')
  obtain ⟨L, hL⟩ : ∃ L, L = keyP S (ks.drop (j + 1)) := ⟨_, rfl⟩
  rw [← hL]
  have FIN := Lib.hid hL
  have HT := Lib.hid h
  have HO := Lib.hid ho
  have HNV := Lib.hid hnv
  clear h ho hnv hL hq'
  obtain ⟨g2, cap2, hk1⟩ := row_some HT.out.ke (by omega)
  have OWK := Lib.hid (show w.ownsRow 0 49 1 (.slice (some ⟨g2, 0, none⟩) ks.length cap2) ks.length ks by have h0 := HT.out.ke; rw [hk1] at h0; exact h0)
  have c4 := HT.out.tb.at (o := 4) rfl
  rw [hk1] at c4
  obtain ⟨I, hI⟩ : ∃ I, t.i = some I := by
    cases hi : t.i with
    | none => have := HT.out.kn.1 hi; rw [hk1] at this; cases this
    | some I => exact ⟨I, rfl⟩
  have c5 := HT.out.tb.at (o := 5) rfl
  rw [hI] at c5
  obtain ⟨es2, cc2, him, hix⟩ : ∃ e c, w.heap[I]? = some (.map e c) ∧ e.toList = ix := by
    have h0 := HT.out.im
    rw [hI] at h0
    exact h0
  obtain ⟨kq, hkq⟩ : ∃ kq, kval q' = kq := ⟨_, rfl⟩
  rw [hkq] at hnil hnz hgd KR hj ⊢
  have KQ := Lib.hid hj
  have HKQ := Lib.hid hkq
  rw [show kval (.num 0) = Value.iface 53 (.float .f64 0) from rfl] at hnz
  clear hj hkq hI hk1
  go_enter Tryz.func74, Tryz.ntmps74
  go_upto_if 24 with fail
  go_cut [1] (fun s1 wx => s1 = kq ∧ wx = w)
  case first =>
    cases hz0 : keq q' (.num 0) with
    | true =>
      rw [hz0] at hnz
      go_wp2
      go_meet
      case rel => exact ⟨rfl, rfl⟩
    | false =>
      rw [hz0] at hnz
      cases q' with
      | str s =>
        obtain rfl : kq = .iface 78 (.string s) := HKQ.out.symm
        go_wp2
        go_meet
        case rel => exact ⟨rfl, rfl⟩
      | num b =>
        obtain ⟨z, rfl, hz, hzn⟩ := hh
        have hz00 : z ≠ 0 := fun e => by
          subst e
          rw [show keq (.num (FloatKind.f64.nearest 0)) (.num 0) = true by decide +kernel] at hz0
          cases hz0
        clear hz0
        have IS := Lib.hid (is_int z hz)
        have hcv : ∀ w, (convert 53 3 (.float .f64 (FloatKind.f64.nearest z))).run Tryz.prog w = .ok (.int .i64 z) w := fun w => run_convert_float_int _ _ _ _ _ _ _ (by rw [Tryz.underlying53]; rfl) Tryz.underlying3 (Fl.val_int hz)
        have hlt : 67108864 ≤ z → (FloatKind.f64.format.order (FloatKind.f64.nearest z) 4724276009111650304 == some .lt) = false := fun h1 => by
          cases h2 : (FloatKind.f64.format.order (FloatKind.f64.nearest z) 4724276009111650304 == some .lt)
          · rfl
          · exfalso
            rw [beq_iff_eq, ← Fl.near_67108864] at h2
            have h3 := (Fl.lt_iff (Fl.fin_of_int hz) (Fl.fin_of_int (n := 67108864) (by decide))).1 h2
            rw [Fl.U_of_int hz, Fl.U_of_int (by decide)] at h3
            have hs := Fl.sc_pos
            have : 67108864 * Fl.sc ≤ z * Fl.sc := Int.mul_le_mul_of_nonneg_right h1 (by omega)
            omega
        have hk2 : kq = .iface 53 (.float .f64 (FloatKind.f64.nearest z)) := HKQ.out.symm
        clear HKQ
        obtain ⟨b, hb⟩ : ∃ b, FloatKind.f64.nearest z = b := ⟨_, rfl⟩
        rw [hb] at IS hcv hlt hk2
        subst hk2
        clear hb hself
        by_cases hneg : z < 0
        · clear hlt
          go_wp2_with fail
          refine (IS.out _).mono ?_
          rintro e w' ⟨rfl, rfl⟩
          go_wp2
          go_meet
          case rel => exact ⟨rfl, rfl⟩
        · have hl2 := hlt (by omega)
          have h0z : 0 ≤ z := by omega
          clear hlt
          go_wp2_with fail
          refine (IS.out _).mono ?_
          rintro e w' ⟨rfl, rfl⟩
          go_wp2
          go_meet
          case rel => exact ⟨rfl, rfl⟩
  case rest =>
    obtain ⟨s1e, wxe⟩ := hcut
    have s1e := s1e.symm
    have wxe := wxe.symm
    subst s1e
    subst wxe
    obtain ⟨p, hp⟩ := hash_pos HO.out KQ.out
    have hlk := look_some (k := kq) w Tryz.underlying87 him (KR.out es2.toList (fun e he => by rw [hix] at he; exact (HT.out.fi.keys e he).1)) (by rw [hix]; exact hp) false
    simp only [Bool.false_eq_true, if_false] at hlk
    clear him hix hp
    go_wp2
    go_loop [12] (fun iv => ∃ i : Nat, i ≤ ks.length ∧ iv = .int .i64 i ∧ keyP S (ks.drop (j + 1)) = keyP S (ks.drop i)) (fun iv => ks.length - (intOf iv).toNat)
    case atStart => exact ⟨j + 1, by omega, by first | rfl | go_num, rfl⟩
    case round =>
      obtain ⟨i, hi, rfl, hki⟩ := hrel
      have HK := Lib.hid hki
      clear hki
      by_cases hlt : i < ks.length
      · obtain ⟨⟨k, ck⟩, _, hx⟩ := owns_cell OWK.out hlt
        have hk0 : ks[i]? = some k := by rw [← hx]; exact ck
        clear hx
        obtain ⟨q, hq, _, hh⟩ := HO.out.kv k (List.mem_of_getElem? hk0)
        subst hq
        have hv := HNV.out q
        rw [← valH_holds hh] at hv
        have GC := Lib.hid (get_h t mt S ks ix q w HT.out)
        have X0 := Lib.hid hk0
        clear hk0 hh
        obtain ⟨kv, hkv⟩ : ∃ kv, kval q = kv := ⟨_, rfl⟩
        rw [hkv] at ck GC X0 hv
        obtain ⟨v, hvv⟩ : ∃ v, valH S kv = v := ⟨_, rfl⟩
        rw [hvv] at GC hv
        have VV := Lib.hid hvv
        clear hvv hkv
        have i1 : (0 : Int) ≤ (i : Int) := by omega
        have i2 : (i : Int) < (ks.length : Int) := by omega
        go_wp2_with fail
        refine GC.out.mono ?_
        rintro e w' ⟨rfl, rfl⟩
        clear GC
        rcases hv with rfl | ⟨b, rfl⟩
        · have D0 := Lib.hid (keyP_dead X0.out (by rw [VV.out]; exact nilw_nil))
          unfold nilw
          go_wp2
          go_round
          case rel => exact ⟨i + 1, by omega, by go_num, by rw [HK.out, D0.out]⟩
          case measure => simp [intOf]; omega
        · have D0 := Lib.hid (keyP_live X0.out (by rw [VV.out]; exact numv_nil b))
          go_wp2
          go_ret2
          exact ⟨by rw [FIN.out, HK.out, D0.out, VV.out]; rfl, rfl⟩
      · obtain rfl : i = ks.length := by omega
        go_wp2
        go_ret2
        exact ⟨by rw [FIN.out, HK.out, keyP_end]; rfl, rfl⟩


theorem keyP_empty {S : St} {ks : List Value} {ix : List MapEntry} (ho : Ordr S ks ix) (h1 : S.str = []) (h2 : S.num = []) : keyP S ks = [] := by
  unfold keyP
  rw [List.filterMap_eq_nil_iff]
  intro k hk
  obtain ⟨q, rfl, _, _⟩ := ho.kv k hk
  refine live_no ?_
  cases q with
  | str s =>
    show isNilw ((cont seq (.string s) S.str).getD nilw) = true
    rw [h1]
    exact nilw_nil
  | num b =>
    show isNilw ((cont keyEq (kval (.num b)) S.num).getD nilw) = true
    rw [h2]
    exact nilw_nil
theorem keys_pos {S : St} {ks : List Value} {ix : List MapEntry} (ho : Ordr S ks ix) (fs : Fine seq IsStr S.str) (fn : Fine keyEq isKey S.num) (h : S.str ≠ [] ∨ S.num ≠ []) : 0 < ks.length := by
  rcases h with h | h
  · obtain ⟨e, he⟩ := List.exists_mem_of_ne_nil _ h
    obtain ⟨⟨s, hs⟩, _⟩ := fs.keys e he
    have hm := cont_mem sapart fs he
    rw [hs] at hm
    obtain ⟨k, hk, _⟩ := ho.str s (by rw [hm]; simp)
    exact List.length_pos_of_mem hk
  · obtain ⟨e, he⟩ := List.exists_mem_of_ne_nil _ h
    obtain ⟨⟨q, hq⟩, _⟩ := fn.keys e he
    have hm := cont_mem keyA fn he
    rw [hq] at hm
    obtain ⟨_, k, hk, _⟩ := ho.num q (by rw [hm]; simp)
    exact List.length_pos_of_mem hk
theorem e0 : FloatKind.f64.nearest 0 = 0 := by decide +kernel

set_option maxHeartbeats 6400000 in
theorem next_nil (t : Tbs) (mt : Value) (S : St) (ks : List Value) (ix : List MapEntry) (w : World) (h : Tab w t mt S ks ix) (ho : Ordr S ks ix) (hkl : ks.length ≤ 1048576) (hnv : ∀ q, NV (holds S q)) (hl : S.arr.length ≤ 65536) :
    Calls Tryz.prog 74 #[.pointer (some ⟨t.T, 0, none⟩), .iface 69 (.int .u8 0)] w (Nx (arrP S.arr (0) ++ keyP S ks) w) := by
  obtain ⟨g, cap, ha⟩ : ∃ g cap, t.a = .slice (some ⟨g, 0, none⟩) S.arr.length cap := by
    rcases h.ar.2 with ⟨h0, _⟩ | ⟨g, cap, cur, h0, _⟩
    · exact absurd h0 h.an
    · exact ⟨g, cap, h0⟩
  have OWA := Lib.hid (show w.ownsRow 0 49 1 (.slice (some ⟨g, 0, none⟩) S.arr.length cap) S.arr.length S.arr by have h0 := h.ar; rw [ha] at h0; exact h0)
  have c1 := h.tb.at (o := 1) rfl
  rw [ha] at c1
  have c2 := h.tb.at (o := 2) rfl
  have c3 := h.tb.at (o := 3) rfl
  obtain ⟨eS, cS, hmS, heS⟩ := h.st
  have hlenS : ∀ ty, (Builtin.len_ #[86] ty #[.map (some t.s)]).run Tryz.prog w = .ok (goInt eS.size) w := fun ty => len_map w hmS ty
  have HES := Lib.hid heS
  obtain ⟨L, hL⟩ : ∃ L, L = arrP S.arr (0) ++ keyP S ks := ⟨_, rfl⟩
  rw [← hL]
  have LL := Lib.hid hL
  have HT := Lib.hid h
  have HO := Lib.hid ho
  have HNV := Lib.hid hnv
  clear h ho hnv hL ha heS hmS
  have IS := Lib.hid (is_int 0 (by decide))
  have hcv : ∀ w, (convert 53 3 (.float .f64 0)).run Tryz.prog w = .ok (.int .i64 0) w := fun w => by
    have h2 : (convert 53 3 (.float .f64 (FloatKind.f64.nearest 0))).run Tryz.prog w = .ok (.int .i64 0) w := run_convert_float_int _ _ _ _ _ _ _ (by rw [Tryz.underlying53]; rfl) Tryz.underlying3 (Fl.val_int (by decide))
    rw [e0] at h2
    exact h2
  rw [e0] at IS
  have hlt : (FloatKind.f64.format.order 0 4724276009111650304 == some .lt) = true := by decide +kernel
  go_enter Tryz.func74, Tryz.ntmps74
  go_upto_if 24 with fail
  go_cut [1] (fun s1 wx => wx = w ∧ ∃ kq, s1 = kq ∧ ks[0]? = some kq ∧ L = keyP S (ks.drop 1))
  case first =>
    go_wp2_with fail
    refine (IS.out _).mono ?_
    rintro e w' ⟨rfl, rfl⟩
    go_wp2
    go_loop [9] (fun iv => ∃ m : Nat, 0 ≤ m ∧ m ≤ S.arr.length ∧ iv = .int .i64 m ∧ arrP S.arr (0) = arrP S.arr m) (fun iv => S.arr.length - (intOf iv).toNat)
    case atStart => exact ⟨0, Nat.le_refl _, by omega, by first | rfl | go_num, rfl⟩
    case round =>
      obtain ⟨m, hma, hm, rfl, harr⟩ := hrel
      have HA := Lib.hid harr
      clear harr
      by_cases hlt : m < S.arr.length
      · obtain ⟨⟨u, cu⟩, _, hx⟩ := owns_cell OWA.out hlt
        have hu0 : S.arr[m]? = some u := by rw [← hx]; exact cu
        have hn := HNV.out (.num (FloatKind.f64.nearest ((m : Int) + 1)))
        rw [holds_arr (arr_akey (i := m) (by omega)), hu0] at hn
        have hn : NV u := hn
        have HX := Lib.hid hu0
        clear hx hu0
        have i1 : (0 : Int) ≤ (m : Int) := by omega
        have i2 : (m : Int) < (S.arr.length : Int) := by omega
        rcases hn with rfl | ⟨b, rfl⟩
        · unfold nilw at cu
          go_wp2
          go_round
          case rel => exact ⟨m + 1, by omega, by omega, by go_num, by rw [HA.out, arrP_none hlt (by rw [HX.out]; exact nilw_nil)]⟩
          case measure => simp [intOf]; omega
        · have hcv2 := run_i2f 3 53 Tryz.underlying3 Tryz.underlying53 ((m : Int) + 1)
          go_wp2
          go_ret2
          exact ⟨by rw [LL.out, HA.out, arrP_some hlt (by rw [HX.out]; exact numv_nil b), HX.out]; rfl, rfl⟩
      · obtain rfl : m = S.arr.length := by omega
        cases hd : t.d with
        | none =>
          rw [hd] at c2
          have hN0 : S.num = [] := by have h0 := HT.out.nm; rw [hd] at h0; exact h0
          have HN0 := Lib.hid hN0
          clear hd hN0
          by_cases hzS : eS.size = 0
          · have ZS := Lib.hid hzS
            rw [hzS] at hlenS
            clear hzS
            go_wp2
            go_ret2
            exact ⟨by rw [LL.out, HA.out, arrP_end (Nat.le_refl _), List.nil_append, keyP_empty HO.out (by rw [← HES.out]; exact List.eq_nil_of_length_eq_zero (by rw [Array.length_toList]; exact ZS.out)) HN0.out]; rfl, rfl⟩
          · have NS := Lib.hid hzS
            have hb0 : (((eS.size : Nat) : Int) == 0) = false := by simpa using hzS
            clear hzS
            have hkp := keys_pos HO.out HT.out.fs HT.out.fn (.inl (fun h0 => NS.out (by rw [← Array.length_toList, HES.out, h0]; rfl)))
            have hik : (0 : Int) < (ks.length : Int) := by omega
            obtain ⟨g2, cap2, hk1⟩ := row_some HT.out.ke hkp
            have c4 := HT.out.tb.at (o := 4) rfl
            rw [hk1] at c4
            have own2 : w.ownsRow 0 49 1 (.slice (some ⟨g2, 0, none⟩) ks.length cap2) ks.length ks := by have h0 := HT.out.ke; rw [hk1] at h0; exact h0
            obtain ⟨⟨k, ck⟩, _, hx⟩ := owns_cell own2 hkp
            have hk0 : ks[0]? = some k := by rw [← hx]; exact ck
            clear hx own2
            obtain ⟨q, hq, _, hh⟩ := HO.out.kv k (List.mem_of_getElem? hk0)
            subst hq
            have hv := HNV.out q
            rw [← valH_holds hh] at hv
            have GC := Lib.hid (get_h t mt S ks ix q w HT.out)
            have X0 := Lib.hid hk0
            clear hk0 hh hk1
            obtain ⟨kv, hkv⟩ : ∃ kv, kval q = kv := ⟨_, rfl⟩
            rw [hkv] at ck GC X0 hv
            obtain ⟨v, hvv⟩ : ∃ v, valH S kv = v := ⟨_, rfl⟩
            rw [hvv] at GC hv
            have VV := Lib.hid hvv
            clear hvv hkv
            go_wp2_with fail
            refine GC.out.mono ?_
            rintro e w' ⟨rfl, rfl⟩
            clear GC
            rcases hv with rfl | ⟨b, rfl⟩
            · have D0 := Lib.hid (keyP_dead X0.out (by rw [VV.out]; exact nilw_nil))
              unfold nilw
              go_wp2
              go_meet
              case rel => exact ⟨rfl, kv, rfl, X0.out, by rw [LL.out, HA.out, arrP_end (Nat.le_refl _), List.nil_append, ← D0.out]; rfl⟩
            · have D0 := Lib.hid (keyP_live X0.out (by rw [VV.out]; exact numv_nil b))
              go_wp2
              go_ret2
              exact ⟨by rw [LL.out, HA.out, arrP_end (Nat.le_refl _), List.nil_append, show keyP S ks = keyP S (ks.drop 0) from rfl, D0.out, VV.out]; rfl, rfl⟩
        | some D =>
          rw [hd] at c2
          obtain ⟨eD, cD, hmD, heD⟩ : ∃ e c, w.heap[D]? = some (.map e c) ∧ e.toList = S.num := by
            have h0 := HT.out.nm
            rw [hd] at h0
            exact h0
          have hlenD : ∀ ty, (Builtin.len_ #[85] ty #[.map (some D)]).run Tryz.prog w = .ok (goInt eD.size) w := fun ty => len_mapN w hmD ty
          have HED := Lib.hid heD
          clear hd hmD heD
          by_cases hzD : eD.size = 0
          · have ZD := Lib.hid hzD
            rw [hzD] at hlenD
            clear hzD
            by_cases hzS : eS.size = 0
            · have ZS := Lib.hid hzS
              rw [hzS] at hlenS
              clear hzS
              go_wp2
              go_ret2
              exact ⟨by rw [LL.out, HA.out, arrP_end (Nat.le_refl _), List.nil_append, keyP_empty HO.out (by rw [← HES.out]; exact List.eq_nil_of_length_eq_zero (by rw [Array.length_toList]; exact ZS.out)) (by rw [← HED.out]; exact List.eq_nil_of_length_eq_zero (by rw [Array.length_toList]; exact ZD.out))]; rfl, rfl⟩
            · have NS := Lib.hid hzS
              have hb0 : (((eS.size : Nat) : Int) == 0) = false := by simpa using hzS
              clear hzS
              have hkp := keys_pos HO.out HT.out.fs HT.out.fn (.inl (fun h0 => NS.out (by rw [← Array.length_toList, HES.out, h0]; rfl)))
              have hik : (0 : Int) < (ks.length : Int) := by omega
              obtain ⟨g2, cap2, hk1⟩ := row_some HT.out.ke hkp
              have c4 := HT.out.tb.at (o := 4) rfl
              rw [hk1] at c4
              have own2 : w.ownsRow 0 49 1 (.slice (some ⟨g2, 0, none⟩) ks.length cap2) ks.length ks := by have h0 := HT.out.ke; rw [hk1] at h0; exact h0
              obtain ⟨⟨k, ck⟩, _, hx⟩ := owns_cell own2 hkp
              have hk0 : ks[0]? = some k := by rw [← hx]; exact ck
              clear hx own2
              obtain ⟨q, hq, _, hh⟩ := HO.out.kv k (List.mem_of_getElem? hk0)
              subst hq
              have hv := HNV.out q
              rw [← valH_holds hh] at hv
              have GC := Lib.hid (get_h t mt S ks ix q w HT.out)
              have X0 := Lib.hid hk0
              clear hk0 hh hk1
              obtain ⟨kv, hkv⟩ : ∃ kv, kval q = kv := ⟨_, rfl⟩
              rw [hkv] at ck GC X0 hv
              obtain ⟨v, hvv⟩ : ∃ v, valH S kv = v := ⟨_, rfl⟩
              rw [hvv] at GC hv
              have VV := Lib.hid hvv
              clear hvv hkv
              go_wp2_with fail
              refine GC.out.mono ?_
              rintro e w' ⟨rfl, rfl⟩
              clear GC
              rcases hv with rfl | ⟨b, rfl⟩
              · have D0 := Lib.hid (keyP_dead X0.out (by rw [VV.out]; exact nilw_nil))
                unfold nilw
                go_wp2
                go_meet
                case rel => exact ⟨rfl, kv, rfl, X0.out, by rw [LL.out, HA.out, arrP_end (Nat.le_refl _), List.nil_append, ← D0.out]; rfl⟩
              · have D0 := Lib.hid (keyP_live X0.out (by rw [VV.out]; exact numv_nil b))
                go_wp2
                go_ret2
                exact ⟨by rw [LL.out, HA.out, arrP_end (Nat.le_refl _), List.nil_append, show keyP S ks = keyP S (ks.drop 0) from rfl, D0.out, VV.out]; rfl, rfl⟩
          · have ND := Lib.hid hzD
            have hb1 : (((eD.size : Nat) : Int) == 0) = false := by simpa using hzD
            clear hzD
            have hkp := keys_pos HO.out HT.out.fs HT.out.fn (.inr (fun h0 => ND.out (by rw [← Array.length_toList, HED.out, h0]; rfl)))
            have hik : (0 : Int) < (ks.length : Int) := by omega
            obtain ⟨g2, cap2, hk1⟩ := row_some HT.out.ke hkp
            have c4 := HT.out.tb.at (o := 4) rfl
            rw [hk1] at c4
            have own2 : w.ownsRow 0 49 1 (.slice (some ⟨g2, 0, none⟩) ks.length cap2) ks.length ks := by have h0 := HT.out.ke; rw [hk1] at h0; exact h0
            obtain ⟨⟨k, ck⟩, _, hx⟩ := owns_cell own2 hkp
            have hk0 : ks[0]? = some k := by rw [← hx]; exact ck
            clear hx own2
            obtain ⟨q, hq, _, hh⟩ := HO.out.kv k (List.mem_of_getElem? hk0)
            subst hq
            have hv := HNV.out q
            rw [← valH_holds hh] at hv
            have GC := Lib.hid (get_h t mt S ks ix q w HT.out)
            have X0 := Lib.hid hk0
            clear hk0 hh hk1
            obtain ⟨kv, hkv⟩ : ∃ kv, kval q = kv := ⟨_, rfl⟩
            rw [hkv] at ck GC X0 hv
            obtain ⟨v, hvv⟩ : ∃ v, valH S kv = v := ⟨_, rfl⟩
            rw [hvv] at GC hv
            have VV := Lib.hid hvv
            clear hvv hkv
            go_wp2_with fail
            refine GC.out.mono ?_
            rintro e w' ⟨rfl, rfl⟩
            clear GC
            rcases hv with rfl | ⟨b, rfl⟩
            · have D0 := Lib.hid (keyP_dead X0.out (by rw [VV.out]; exact nilw_nil))
              unfold nilw
              go_wp2
              go_meet
              case rel => exact ⟨rfl, kv, rfl, X0.out, by rw [LL.out, HA.out, arrP_end (Nat.le_refl _), List.nil_append, ← D0.out]; rfl⟩
            · have D0 := Lib.hid (keyP_live X0.out (by rw [VV.out]; exact numv_nil b))
              go_wp2
              go_ret2
              exact ⟨by rw [LL.out, HA.out, arrP_end (Nat.le_refl _), List.nil_append, show keyP S ks = keyP S (ks.drop 0) from rfl, D0.out, VV.out]; rfl, rfl⟩
  case rest =>
    obtain ⟨wxe, kq, s1e, hk0, hL2⟩ := hcut
    have s1e := s1e.symm
    have wxe := wxe.symm
    subst s1e
    subst wxe
    obtain ⟨j, hj0⟩ : ∃ j : Nat, j = 0 := ⟨0, rfl⟩
    have KQ := Lib.hid (show ks[j]? = some kq by rw [hj0]; exact hk0)
    have FIN := Lib.hid (show L = keyP S (ks.drop (j + 1)) by rw [hj0]; exact hL2)
    have hjl : j < ks.length := by rw [hj0]; exact (List.getElem?_eq_some_iff.1 hk0).1
    obtain ⟨q', hq', _, _⟩ := HO.out.kv _ (List.mem_of_getElem? hk0)
    have KR := Lib.hid (key_run q')
    rw [show kval q' = kq from hq'.symm] at KR
    clear hk0 hL2 hj0 hq' c1 c2 c3 hlenS OWA LL
    obtain ⟨g2, cap2, hk1⟩ := row_some HT.out.ke (by omega)
    have OWK := Lib.hid (show w.ownsRow 0 49 1 (.slice (some ⟨g2, 0, none⟩) ks.length cap2) ks.length ks by have h0 := HT.out.ke; rw [hk1] at h0; exact h0)
    have c4 := HT.out.tb.at (o := 4) rfl
    rw [hk1] at c4
    obtain ⟨I, hI⟩ : ∃ I, t.i = some I := by
      cases hi : t.i with
      | none => have := HT.out.kn.1 hi; rw [hk1] at this; cases this
      | some I => exact ⟨I, rfl⟩
    have c5 := HT.out.tb.at (o := 5) rfl
    rw [hI] at c5
    obtain ⟨es2, cc2, him, hix⟩ : ∃ e c, w.heap[I]? = some (.map e c) ∧ e.toList = ix := by
      have h0 := HT.out.im
      rw [hI] at h0
      exact h0
    clear hI hk1
    obtain ⟨p, hp⟩ := hash_pos HO.out KQ.out
    have hlk := look_some (k := kq) w Tryz.underlying87 him (KR.out es2.toList (fun e he => by rw [hix] at he; exact (HT.out.fi.keys e he).1)) (by rw [hix]; exact hp) false
    simp only [Bool.false_eq_true, if_false] at hlk
    clear him hix hp
    go_wp2
    go_loop [12] (fun iv => ∃ i : Nat, i ≤ ks.length ∧ iv = .int .i64 i ∧ keyP S (ks.drop (j + 1)) = keyP S (ks.drop i)) (fun iv => ks.length - (intOf iv).toNat)
    case atStart => exact ⟨j + 1, by omega, by first | rfl | go_num, rfl⟩
    case round =>
      obtain ⟨i, hi, rfl, hki⟩ := hrel
      have HK := Lib.hid hki
      clear hki
      by_cases hlt : i < ks.length
      · obtain ⟨⟨k, ck⟩, _, hx⟩ := owns_cell OWK.out hlt
        have hk0 : ks[i]? = some k := by rw [← hx]; exact ck
        clear hx
        obtain ⟨q, hq, _, hh⟩ := HO.out.kv k (List.mem_of_getElem? hk0)
        subst hq
        have hv := HNV.out q
        rw [← valH_holds hh] at hv
        have GC := Lib.hid (get_h t mt S ks ix q w HT.out)
        have X0 := Lib.hid hk0
        clear hk0 hh
        obtain ⟨kv, hkv⟩ : ∃ kv, kval q = kv := ⟨_, rfl⟩
        rw [hkv] at ck GC X0 hv
        obtain ⟨v, hvv⟩ : ∃ v, valH S kv = v := ⟨_, rfl⟩
        rw [hvv] at GC hv
        have VV := Lib.hid hvv
        clear hvv hkv
        have i1 : (0 : Int) ≤ (i : Int) := by omega
        have i2 : (i : Int) < (ks.length : Int) := by omega
        go_wp2_with fail
        refine GC.out.mono ?_
        rintro e w' ⟨rfl, rfl⟩
        clear GC
        rcases hv with rfl | ⟨b, rfl⟩
        · have D0 := Lib.hid (keyP_dead X0.out (by rw [VV.out]; exact nilw_nil))
          unfold nilw
          go_wp2
          go_round
          case rel => exact ⟨i + 1, by omega, by go_num, by rw [HK.out, D0.out]⟩
          case measure => simp [intOf]; omega
        · have D0 := Lib.hid (keyP_live X0.out (by rw [VV.out]; exact numv_nil b))
          go_wp2
          go_ret2
          exact ⟨by rw [FIN.out, HK.out, D0.out, VV.out]; rfl, rfl⟩
      · obtain rfl : i = ks.length := by omega
        go_wp2
        go_ret2
        exact ⟨by rw [FIN.out, HK.out, keyP_end]; rfl, rfl⟩

set_option maxHeartbeats 6400000 in
theorem next_arr (t : Tbs) (mt : Value) (S : St) (ks : List Value) (ix : List MapEntry) (w : World) (h : Tab w t mt S ks ix) (ho : Ordr S ks ix) (hkl : ks.length ≤ 1048576) (hnv : ∀ q, NV (holds S q)) (hl : S.arr.length ≤ 65536) (i0 : Nat) (hi0 : i0 < S.arr.length) :
    Calls Tryz.prog 74 #[.pointer (some ⟨t.T, 0, none⟩), arrKey i0] w (Nx (arrP S.arr (i0 + 1) ++ keyP S ks) w) := by
  obtain ⟨g, cap, ha⟩ : ∃ g cap, t.a = .slice (some ⟨g, 0, none⟩) S.arr.length cap := by
    rcases h.ar.2 with ⟨h0, _⟩ | ⟨g, cap, cur, h0, _⟩
    · exact absurd h0 h.an
    · exact ⟨g, cap, h0⟩
  have OWA := Lib.hid (show w.ownsRow 0 49 1 (.slice (some ⟨g, 0, none⟩) S.arr.length cap) S.arr.length S.arr by have h0 := h.ar; rw [ha] at h0; exact h0)
  have c1 := h.tb.at (o := 1) rfl
  rw [ha] at c1
  have c2 := h.tb.at (o := 2) rfl
  have c3 := h.tb.at (o := 3) rfl
  obtain ⟨eS, cS, hmS, heS⟩ := h.st
  have hlenS : ∀ ty, (Builtin.len_ #[86] ty #[.map (some t.s)]).run Tryz.prog w = .ok (goInt eS.size) w := fun ty => len_map w hmS ty
  have HES := Lib.hid heS
  obtain ⟨L, hL⟩ : ∃ L, L = arrP S.arr (i0 + 1) ++ keyP S ks := ⟨_, rfl⟩
  rw [← hL]
  have LL := Lib.hid hL
  have HT := Lib.hid h
  have HO := Lib.hid ho
  have HNV := Lib.hid hnv
  clear h ho hnv hL ha heS hmS
  have hz : ((i0 : Int) + 1).natAbs ≤ 9007199254740992 := by omega
  have IS := Lib.hid (is_int ((i0 : Int) + 1) hz)
  have hcv : ∀ w, (convert 53 3 (.float .f64 (FloatKind.f64.nearest ((i0 : Int) + 1)))).run Tryz.prog w = .ok (.int .i64 ((i0 : Int) + 1)) w := fun w => run_convert_float_int _ _ _ _ _ _ _ (by rw [Tryz.underlying53]; rfl) Tryz.underlying3 (Fl.val_int hz)
  have hlt : (FloatKind.f64.format.order (FloatKind.f64.nearest ((i0 : Int) + 1)) 4724276009111650304 == some .lt) = true := by
    rw [beq_iff_eq, ← Fl.near_67108864]
    exact Fl.akey_lt (arr_akey (i := i0) (by omega))
  have hnz := nz_key (.num (FloatKind.f64.nearest ((i0 : Int) + 1)))
  have hk0 : keq (.num (FloatKind.f64.nearest ((i0 : Int) + 1))) (.num 0) = false := by
    cases hk : keq (.num (FloatKind.f64.nearest ((i0 : Int) + 1))) (.num 0)
    · rfl
    · have h2 := keq_akey (keq_symm hk) (arr_akey (i := i0) (by omega))
      rw [show Fl.akey 0 = none by rw [← e0, Fl.akey_int (by decide)]; rfl] at h2
      cases h2
  rw [hk0, show kval (.num 0) = Value.iface 53 (.float .f64 0) from rfl, show kval (.num (FloatKind.f64.nearest ((i0 : Int) + 1))) = Value.iface 53 (.float .f64 (FloatKind.f64.nearest ((i0 : Int) + 1))) from rfl] at hnz
  rw [show arrKey i0 = Value.iface 53 (.float .f64 (FloatKind.f64.nearest ((i0 : Int) + 1))) from rfl]
  clear hk0 hz
  obtain ⟨b0, hb0⟩ : ∃ b0, FloatKind.f64.nearest ((i0 : Int) + 1) = b0 := ⟨_, rfl⟩
  rw [hb0] at IS hcv hlt hnz ⊢
  clear hb0
  go_enter Tryz.func74, Tryz.ntmps74
  go_upto_if 24 with fail
  go_cut [1] (fun s1 wx => wx = w ∧ ∃ kq, s1 = kq ∧ ks[0]? = some kq ∧ L = keyP S (ks.drop 1))
  case first =>
    go_wp2_with fail
    refine (IS.out _).mono ?_
    rintro e w' ⟨rfl, rfl⟩
    go_wp2
    go_loop [9] (fun iv => ∃ m : Nat, i0 + 1 ≤ m ∧ m ≤ S.arr.length ∧ iv = .int .i64 m ∧ arrP S.arr (i0 + 1) = arrP S.arr m) (fun iv => S.arr.length - (intOf iv).toNat)
    case atStart => exact ⟨i0 + 1, Nat.le_refl _, by omega, by first | rfl | go_num, rfl⟩
    case round =>
      obtain ⟨m, hma, hm, rfl, harr⟩ := hrel
      have HA := Lib.hid harr
      clear harr
      by_cases hlt : m < S.arr.length
      · obtain ⟨⟨u, cu⟩, _, hx⟩ := owns_cell OWA.out hlt
        have hu0 : S.arr[m]? = some u := by rw [← hx]; exact cu
        have hn := HNV.out (.num (FloatKind.f64.nearest ((m : Int) + 1)))
        rw [holds_arr (arr_akey (i := m) (by omega)), hu0] at hn
        have hn : NV u := hn
        have HX := Lib.hid hu0
        clear hx hu0
        have i1 : (0 : Int) ≤ (m : Int) := by omega
        have i2 : (m : Int) < (S.arr.length : Int) := by omega
        rcases hn with rfl | ⟨b, rfl⟩
        · unfold nilw at cu
          go_wp2
          go_round
          case rel => exact ⟨m + 1, by omega, by omega, by go_num, by rw [HA.out, arrP_none hlt (by rw [HX.out]; exact nilw_nil)]⟩
          case measure => simp [intOf]; omega
        · have hcv2 := run_i2f 3 53 Tryz.underlying3 Tryz.underlying53 ((m : Int) + 1)
          go_wp2
          go_ret2
          exact ⟨by rw [LL.out, HA.out, arrP_some hlt (by rw [HX.out]; exact numv_nil b), HX.out]; rfl, rfl⟩
      · obtain rfl : m = S.arr.length := by omega
        cases hd : t.d with
        | none =>
          rw [hd] at c2
          have hN0 : S.num = [] := by have h0 := HT.out.nm; rw [hd] at h0; exact h0
          have HN0 := Lib.hid hN0
          clear hd hN0
          by_cases hzS : eS.size = 0
          · have ZS := Lib.hid hzS
            rw [hzS] at hlenS
            clear hzS
            go_wp2
            go_ret2
            exact ⟨by rw [LL.out, HA.out, arrP_end (Nat.le_refl _), List.nil_append, keyP_empty HO.out (by rw [← HES.out]; exact List.eq_nil_of_length_eq_zero (by rw [Array.length_toList]; exact ZS.out)) HN0.out]; rfl, rfl⟩
          · have NS := Lib.hid hzS
            have hb0 : (((eS.size : Nat) : Int) == 0) = false := by simpa using hzS
            clear hzS
            have hkp := keys_pos HO.out HT.out.fs HT.out.fn (.inl (fun h0 => NS.out (by rw [← Array.length_toList, HES.out, h0]; rfl)))
            have hik : (0 : Int) < (ks.length : Int) := by omega
            obtain ⟨g2, cap2, hk1⟩ := row_some HT.out.ke hkp
            have c4 := HT.out.tb.at (o := 4) rfl
            rw [hk1] at c4
            have own2 : w.ownsRow 0 49 1 (.slice (some ⟨g2, 0, none⟩) ks.length cap2) ks.length ks := by have h0 := HT.out.ke; rw [hk1] at h0; exact h0
            obtain ⟨⟨k, ck⟩, _, hx⟩ := owns_cell own2 hkp
            have hk0 : ks[0]? = some k := by rw [← hx]; exact ck
            clear hx own2
            obtain ⟨q, hq, _, hh⟩ := HO.out.kv k (List.mem_of_getElem? hk0)
            subst hq
            have hv := HNV.out q
            rw [← valH_holds hh] at hv
            have GC := Lib.hid (get_h t mt S ks ix q w HT.out)
            have X0 := Lib.hid hk0
            clear hk0 hh hk1
            obtain ⟨kv, hkv⟩ : ∃ kv, kval q = kv := ⟨_, rfl⟩
            rw [hkv] at ck GC X0 hv
            obtain ⟨v, hvv⟩ : ∃ v, valH S kv = v := ⟨_, rfl⟩
            rw [hvv] at GC hv
            have VV := Lib.hid hvv
            clear hvv hkv
            go_wp2_with fail
            refine GC.out.mono ?_
            rintro e w' ⟨rfl, rfl⟩
            clear GC
            rcases hv with rfl | ⟨b, rfl⟩
            · have D0 := Lib.hid (keyP_dead X0.out (by rw [VV.out]; exact nilw_nil))
              unfold nilw
              go_wp2
              go_meet
              case rel => exact ⟨rfl, kv, rfl, X0.out, by rw [LL.out, HA.out, arrP_end (Nat.le_refl _), List.nil_append, ← D0.out]; rfl⟩
            · have D0 := Lib.hid (keyP_live X0.out (by rw [VV.out]; exact numv_nil b))
              go_wp2
              go_ret2
              exact ⟨by rw [LL.out, HA.out, arrP_end (Nat.le_refl _), List.nil_append, show keyP S ks = keyP S (ks.drop 0) from rfl, D0.out, VV.out]; rfl, rfl⟩
        | some D =>
          rw [hd] at c2
          obtain ⟨eD, cD, hmD, heD⟩ : ∃ e c, w.heap[D]? = some (.map e c) ∧ e.toList = S.num := by
            have h0 := HT.out.nm
            rw [hd] at h0
            exact h0
          have hlenD : ∀ ty, (Builtin.len_ #[85] ty #[.map (some D)]).run Tryz.prog w = .ok (goInt eD.size) w := fun ty => len_mapN w hmD ty
          have HED := Lib.hid heD
          clear hd hmD heD
          by_cases hzD : eD.size = 0
          · have ZD := Lib.hid hzD
            rw [hzD] at hlenD
            clear hzD
            by_cases hzS : eS.size = 0
            · have ZS := Lib.hid hzS
              rw [hzS] at hlenS
              clear hzS
              go_wp2
              go_ret2
              exact ⟨by rw [LL.out, HA.out, arrP_end (Nat.le_refl _), List.nil_append, keyP_empty HO.out (by rw [← HES.out]; exact List.eq_nil_of_length_eq_zero (by rw [Array.length_toList]; exact ZS.out)) (by rw [← HED.out]; exact List.eq_nil_of_length_eq_zero (by rw [Array.length_toList]; exact ZD.out))]; rfl, rfl⟩
            · have NS := Lib.hid hzS
              have hb0 : (((eS.size : Nat) : Int) == 0) = false := by simpa using hzS
              clear hzS
              have hkp := keys_pos HO.out HT.out.fs HT.out.fn (.inl (fun h0 => NS.out (by rw [← Array.length_toList, HES.out, h0]; rfl)))
              have hik : (0 : Int) < (ks.length : Int) := by omega
              obtain ⟨g2, cap2, hk1⟩ := row_some HT.out.ke hkp
              have c4 := HT.out.tb.at (o := 4) rfl
              rw [hk1] at c4
              have own2 : w.ownsRow 0 49 1 (.slice (some ⟨g2, 0, none⟩) ks.length cap2) ks.length ks := by have h0 := HT.out.ke; rw [hk1] at h0; exact h0
              obtain ⟨⟨k, ck⟩, _, hx⟩ := owns_cell own2 hkp
              have hk0 : ks[0]? = some k := by rw [← hx]; exact ck
              clear hx own2
              obtain ⟨q, hq, _, hh⟩ := HO.out.kv k (List.mem_of_getElem? hk0)
              subst hq
              have hv := HNV.out q
              rw [← valH_holds hh] at hv
              have GC := Lib.hid (get_h t mt S ks ix q w HT.out)
              have X0 := Lib.hid hk0
              clear hk0 hh hk1
              obtain ⟨kv, hkv⟩ : ∃ kv, kval q = kv := ⟨_, rfl⟩
              rw [hkv] at ck GC X0 hv
              obtain ⟨v, hvv⟩ : ∃ v, valH S kv = v := ⟨_, rfl⟩
              rw [hvv] at GC hv
              have VV := Lib.hid hvv
              clear hvv hkv
              go_wp2_with fail
              refine GC.out.mono ?_
              rintro e w' ⟨rfl, rfl⟩
              clear GC
              rcases hv with rfl | ⟨b, rfl⟩
              · have D0 := Lib.hid (keyP_dead X0.out (by rw [VV.out]; exact nilw_nil))
                unfold nilw
                go_wp2
                go_meet
                case rel => exact ⟨rfl, kv, rfl, X0.out, by rw [LL.out, HA.out, arrP_end (Nat.le_refl _), List.nil_append, ← D0.out]; rfl⟩
              · have D0 := Lib.hid (keyP_live X0.out (by rw [VV.out]; exact numv_nil b))
                go_wp2
                go_ret2
                exact ⟨by rw [LL.out, HA.out, arrP_end (Nat.le_refl _), List.nil_append, show keyP S ks = keyP S (ks.drop 0) from rfl, D0.out, VV.out]; rfl, rfl⟩
          · have ND := Lib.hid hzD
            have hb1 : (((eD.size : Nat) : Int) == 0) = false := by simpa using hzD
            clear hzD
            have hkp := keys_pos HO.out HT.out.fs HT.out.fn (.inr (fun h0 => ND.out (by rw [← Array.length_toList, HED.out, h0]; rfl)))
            have hik : (0 : Int) < (ks.length : Int) := by omega
            obtain ⟨g2, cap2, hk1⟩ := row_some HT.out.ke hkp
            have c4 := HT.out.tb.at (o := 4) rfl
            rw [hk1] at c4
            have own2 : w.ownsRow 0 49 1 (.slice (some ⟨g2, 0, none⟩) ks.length cap2) ks.length ks := by have h0 := HT.out.ke; rw [hk1] at h0; exact h0
            obtain ⟨⟨k, ck⟩, _, hx⟩ := owns_cell own2 hkp
            have hk0 : ks[0]? = some k := by rw [← hx]; exact ck
            clear hx own2
            obtain ⟨q, hq, _, hh⟩ := HO.out.kv k (List.mem_of_getElem? hk0)
            subst hq
            have hv := HNV.out q
            rw [← valH_holds hh] at hv
            have GC := Lib.hid (get_h t mt S ks ix q w HT.out)
            have X0 := Lib.hid hk0
            clear hk0 hh hk1
            obtain ⟨kv, hkv⟩ : ∃ kv, kval q = kv := ⟨_, rfl⟩
            rw [hkv] at ck GC X0 hv
            obtain ⟨v, hvv⟩ : ∃ v, valH S kv = v := ⟨_, rfl⟩
            rw [hvv] at GC hv
            have VV := Lib.hid hvv
            clear hvv hkv
            go_wp2_with fail
            refine GC.out.mono ?_
            rintro e w' ⟨rfl, rfl⟩
            clear GC
            rcases hv with rfl | ⟨b, rfl⟩
            · have D0 := Lib.hid (keyP_dead X0.out (by rw [VV.out]; exact nilw_nil))
              unfold nilw
              go_wp2
              go_meet
              case rel => exact ⟨rfl, kv, rfl, X0.out, by rw [LL.out, HA.out, arrP_end (Nat.le_refl _), List.nil_append, ← D0.out]; rfl⟩
            · have D0 := Lib.hid (keyP_live X0.out (by rw [VV.out]; exact numv_nil b))
              go_wp2
              go_ret2
              exact ⟨by rw [LL.out, HA.out, arrP_end (Nat.le_refl _), List.nil_append, show keyP S ks = keyP S (ks.drop 0) from rfl, D0.out, VV.out]; rfl, rfl⟩
  case rest =>
    obtain ⟨wxe, kq, s1e, hk0, hL2⟩ := hcut
    have s1e := s1e.symm
    have wxe := wxe.symm
    subst s1e
    subst wxe
    obtain ⟨j, hj0⟩ : ∃ j : Nat, j = 0 := ⟨0, rfl⟩
    have KQ := Lib.hid (show ks[j]? = some kq by rw [hj0]; exact hk0)
    have FIN := Lib.hid (show L = keyP S (ks.drop (j + 1)) by rw [hj0]; exact hL2)
    have hjl : j < ks.length := by rw [hj0]; exact (List.getElem?_eq_some_iff.1 hk0).1
    obtain ⟨q', hq', _, _⟩ := HO.out.kv _ (List.mem_of_getElem? hk0)
    have KR := Lib.hid (key_run q')
    rw [show kval q' = kq from hq'.symm] at KR
    clear hk0 hL2 hj0 hq' c1 c2 c3 hlenS OWA LL
    obtain ⟨g2, cap2, hk1⟩ := row_some HT.out.ke (by omega)
    have OWK := Lib.hid (show w.ownsRow 0 49 1 (.slice (some ⟨g2, 0, none⟩) ks.length cap2) ks.length ks by have h0 := HT.out.ke; rw [hk1] at h0; exact h0)
    have c4 := HT.out.tb.at (o := 4) rfl
    rw [hk1] at c4
    obtain ⟨I, hI⟩ : ∃ I, t.i = some I := by
      cases hi : t.i with
      | none => have := HT.out.kn.1 hi; rw [hk1] at this; cases this
      | some I => exact ⟨I, rfl⟩
    have c5 := HT.out.tb.at (o := 5) rfl
    rw [hI] at c5
    obtain ⟨es2, cc2, him, hix⟩ : ∃ e c, w.heap[I]? = some (.map e c) ∧ e.toList = ix := by
      have h0 := HT.out.im
      rw [hI] at h0
      exact h0
    clear hI hk1
    obtain ⟨p, hp⟩ := hash_pos HO.out KQ.out
    have hlk := look_some (k := kq) w Tryz.underlying87 him (KR.out es2.toList (fun e he => by rw [hix] at he; exact (HT.out.fi.keys e he).1)) (by rw [hix]; exact hp) false
    simp only [Bool.false_eq_true, if_false] at hlk
    clear him hix hp
    go_wp2
    go_loop [12] (fun iv => ∃ i : Nat, i ≤ ks.length ∧ iv = .int .i64 i ∧ keyP S (ks.drop (j + 1)) = keyP S (ks.drop i)) (fun iv => ks.length - (intOf iv).toNat)
    case atStart => exact ⟨j + 1, by omega, by first | rfl | go_num, rfl⟩
    case round =>
      obtain ⟨i, hi, rfl, hki⟩ := hrel
      have HK := Lib.hid hki
      clear hki
      by_cases hlt : i < ks.length
      · obtain ⟨⟨k, ck⟩, _, hx⟩ := owns_cell OWK.out hlt
        have hk0 : ks[i]? = some k := by rw [← hx]; exact ck
        clear hx
        obtain ⟨q, hq, _, hh⟩ := HO.out.kv k (List.mem_of_getElem? hk0)
        subst hq
        have hv := HNV.out q
        rw [← valH_holds hh] at hv
        have GC := Lib.hid (get_h t mt S ks ix q w HT.out)
        have X0 := Lib.hid hk0
        clear hk0 hh
        obtain ⟨kv, hkv⟩ : ∃ kv, kval q = kv := ⟨_, rfl⟩
        rw [hkv] at ck GC X0 hv
        obtain ⟨v, hvv⟩ : ∃ v, valH S kv = v := ⟨_, rfl⟩
        rw [hvv] at GC hv
        have VV := Lib.hid hvv
        clear hvv hkv
        have i1 : (0 : Int) ≤ (i : Int) := by omega
        have i2 : (i : Int) < (ks.length : Int) := by omega
        go_wp2_with fail
        refine GC.out.mono ?_
        rintro e w' ⟨rfl, rfl⟩
        clear GC
        rcases hv with rfl | ⟨b, rfl⟩
        · have D0 := Lib.hid (keyP_dead X0.out (by rw [VV.out]; exact nilw_nil))
          unfold nilw
          go_wp2
          go_round
          case rel => exact ⟨i + 1, by omega, by go_num, by rw [HK.out, D0.out]⟩
          case measure => simp [intOf]; omega
        · have D0 := Lib.hid (keyP_live X0.out (by rw [VV.out]; exact numv_nil b))
          go_wp2
          go_ret2
          exact ⟨by rw [FIN.out, HK.out, D0.out, VV.out]; rfl, rfl⟩
      · obtain rfl : i = ks.length := by omega
        go_wp2
        go_ret2
        exact ⟨by rw [FIN.out, HK.out, keyP_end]; rfl, rfl⟩
end Go.Proofs.YtlmadbgpllokfaaGreatFmt
