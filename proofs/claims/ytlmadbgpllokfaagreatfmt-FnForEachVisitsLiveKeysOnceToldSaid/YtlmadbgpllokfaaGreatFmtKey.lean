/- Stores and look-ups under any key: RawSet, RawSetInt, RawGet: walked. -/
import Derived.Test.YtlmadbgpllokfaaGreatFmtArr
import Derived.Test.YtlmadbgpllokfaaGreatFmtDid
import Derived.Test.YtlmadbgpllokfaaGreatFmtDie
namespace Go.Proofs.YtlmadbgpllokfaaGreatFmt
open Go.RowKit Go.Mapy Go.Tbl
set_option maxRecDepth 100000

/-- What a store under a key leaves. -/
def SetKey (t : Tbs) (mt : Value) (S : St) (ks : List Value) (k : Key) (v : Value) (w : World) (e : Ending) (w' : World) : Prop :=
  e = .returned (.tuple #[]) ∧ ∃ t' S' ks' ix', t'.T = t.T ∧ Upd (Fp t) w w' ∧ (∀ c, Fp t' c → Fp t c ∨ w.heap.size ≤ c) ∧ Tab w' t' mt S' ks' ix' ∧ (∀ q, holds S' q = if keq q k then v else holds S q) ∧ S'.arr.length ≤ max S.arr.length 65536 ∧ ks'.length ≤ ks.length + 1

theorem SetArr.key {t : Tbs} {mt : Value} {S : St} {ks : List Value} {ix : List MapEntry} {i b : Nat} {v : Value} {w w' : World} {e : Ending} (h : SetArr t mt S ks ix i v w e w') (hb : Fl.akey b = some (i + 1)) (hi : i < 65536) : SetKey t mt S ks (.num b) v w e w' := by
  obtain ⟨he, t', hT, hu, hf, ht⟩ := h
  exact ⟨he, t', _, ks, ix, hT, hu, hf, ht, fun q => look_arr _ _ _ v hb q, by show (setPad nilw S.arr i v).length ≤ _; rw [setPad_length]; omega, by omega⟩
theorem SetNum.key {t : Tbs} {mt : Value} {S : St} {ks : List Value} {ix : List MapEntry} {b : Nat} {v : Value} {isNil : Bool} {w w' : World} {e : Ending} (h : SetNum t mt S ks ix b v isNil w e w') (hv : Val v isNil) (hb : Fl.akey b = none) : SetKey t mt S ks (.num b) v w e w' := by
  obtain ⟨he, t', num', ks', ix', hT, hu, hf, ht, hp, _, _, hl⟩ := h
  refine ⟨he, t', _, ks', ix', hT, hu, hf, ht, fun q => look_num _ _ _ (isNil := isNil) (fun hn => ?_) hb hp q, by show S.arr.length ≤ _; omega, hl⟩
  rcases hv with ⟨_, h⟩ | ⟨h, _⟩
  · exact h
  · rw [h] at hn; cases hn
theorem SetStr.key {t : Tbs} {mt : Value} {S : St} {ks : List Value} {ix : List MapEntry} {s : ByteArray} {v : Value} {isNil : Bool} {w w' : World} {e : Ending} (h : SetStr t mt S ks ix s v isNil w e w') (hv : Val v isNil) : SetKey t mt S ks (.str s) v w e w' := by
  obtain ⟨he, t', str', ks', ix', hT, hu, hf, ht, hp, _, _, hl⟩ := h
  refine ⟨he, t', _, ks', ix', hT, hu, hf, ht, fun q => look_str _ _ _ (isNil := isNil) (fun hn => ?_) hp q, by show S.arr.length ≤ _; omega, hl⟩
  rcases hv with ⟨_, h⟩ | ⟨h, _⟩
  · exact h
  · rw [h] at hn; cases hn

theorem set_h (t : Tbs) (mt : Value) (S : St) (ks : List Value) (ix : List MapEntry) (b : Nat) (v : Value) (isNil : Bool) (w : World) (hv : Val v isNil) (hkl : ks.length ≤ 1048576) (hbk : keyEq (kval (.num b)) (kval (.num b)) = true) (h : Tab w t mt S ks ix) :
    Calls Tryz.prog 89 #[.pointer (some ⟨t.T, 0, none⟩), .iface 53 (.float .f64 b), v] w (SetNum t mt S ks ix b v isNil w) := by
  rcases hv with ⟨rfl, rfl⟩ | ⟨rfl, ty, x, rfl, hty, _⟩
  · rcases h.ke.2 with ⟨hk0, _⟩ | ⟨g, cap, cur, hk1, _⟩
    · obtain ⟨_, rfl, rfl⟩ := tbl_old h hk0
      cases hd : t.d with
      | none => exact drop_new_first t mt S b w hd hk0 h
      | some D => exact drop_old_first t mt S b w D hd hk0 h
    · cases hd : t.d with
      | none => exact drop_new_added t mt S ks ix b w hd g cap hk1 h
      | some D => exact drop_old_added t mt S ks ix b w D hd g cap hk1 h
  · rcases h.ke.2 with ⟨hk0, _⟩ | ⟨g, cap, cur, hk1, _⟩
    · obtain ⟨_, rfl, rfl⟩ := tbl_old h hk0
      cases hd : t.d with
      | none => exact put_new_first t mt S b ty x w hd hk0 hty hbk h
      | some D => exact put_old_first t mt S b ty x w D hd hk0 hty hbk h
    · cases hi : t.i with
      | none =>
        have := h.kn.1 hi
        rw [hk1] at this
        cases this
      | some I =>
        cases hsp : spot keyEq (kval (.num b)) ix 0 with
        | some p =>
          cases hd : t.d with
          | none => exact put_new_known t mt S ks ix b ty x w hd g cap hk1 I hi p hsp hty hbk h
          | some D => exact put_old_known t mt S ks ix b ty x w D hd g cap hk1 I hi p hsp hty hbk h
        | none =>
          cases hd : t.d with
          | none => exact put_new_added t mt S ks ix b ty x w hd g cap hk1 I hi hkl hsp hty hbk h
          | some D => exact put_old_added t mt S ks ix b ty x w D hd g cap hk1 I hi hkl hsp hty hbk h

theorem val_iface {v : Value} {isNil : Bool} (hv : Val v isNil) : ∃ ty x, v = .iface ty x ∧ (Value.iface ty x).oneCell' = true := by
  rcases hv with ⟨_, rfl⟩ | ⟨_, ty, x, rfl, _, h1⟩
  · exact ⟨_, _, rfl, rfl⟩
  · exact ⟨ty, x, rfl, h1⟩

/-- The array part's bounds. -/
theorem set_int_arr (t : Tbs) (mt : Value) (S : St) (ks : List Value) (ix : List MapEntry) (i : Nat) (v : Value) (isNil : Bool) (w : World) (hv : Val v isNil) (hi : i < 65536) (hl : S.arr.length ≤ 65536) (h : Tab w t mt S ks ix) :
    Calls Tryz.prog 85 #[.pointer (some ⟨t.T, 0, none⟩), .int .i64 ((i : Int) + 1), v] w (SetArr t mt S ks ix i v w) := by
  obtain ⟨ty, x, rfl, h1⟩ := val_iface hv
  rcases Nat.lt_trichotomy i S.arr.length with hc | hc | hc
  · exact int_in t mt S ks ix i (by omega) ty x w h1 (by omega) hc h
  · exact int_end t mt S ks ix i (by omega) ty x w h1 (by omega) hc h
  · exact int_pad t mt S ks ix i (by omega) ty x w h1 (by omega) hc h
theorem set_num_arr (t : Tbs) (mt : Value) (S : St) (ks : List Value) (ix : List MapEntry) (i b : Nat) (v : Value) (isNil : Bool) (w : World) (hv : Val v isNil) (hb : Fl.akey b = some (i + 1)) (hl : S.arr.length ≤ 65536) (h : Tab w t mt S ks ix) :
    Calls Tryz.prog 77 #[.pointer (some ⟨t.T, 0, none⟩), .iface 53 (.float .f64 b), v] w (SetArr t mt S ks ix i v w) := by
  obtain ⟨ty, x, rfl, h1⟩ := val_iface hv
  rcases Nat.lt_trichotomy i S.arr.length with hc | hc | hc
  · exact num_in t mt S ks ix i b hb ty x w h1 (by omega) hc h
  · exact num_end t mt S ks ix i b hb ty x w h1 (by omega) hc h
  · exact num_pad t mt S ks ix i b hb ty x w h1 (by omega) hc h

set_option maxHeartbeats 400000 in
theorem set_int_far (t : Tbs) (mt : Value) (S : St) (ks : List Value) (ix : List MapEntry) (key : Int) (v : Value) (isNil : Bool) (w : World) (hv : Val v isNil) (hk : key < 1 ∨ 67108864 ≤ key) (hkl : ks.length ≤ 1048576) (hbk : keyEq (kval (.num (FloatKind.f64.nearest key))) (kval (.num (FloatKind.f64.nearest key))) = true) (h : Tab w t mt S ks ix) :
    Calls Tryz.prog 85 #[.pointer (some ⟨t.T, 0, none⟩), .int .i64 key, v] w (SetNum t mt S ks ix (FloatKind.f64.nearest key) v isNil w) := by
  have C := Lib.hid (set_h t mt S ks ix (FloatKind.f64.nearest key) v isNil w hv hkl hbk h)
  have hc := run_i2f 3 53 Tryz.underlying3 Tryz.underlying53 key
  clear hv hkl hbk h
  by_cases h1 : key < 1
  · clear hk
    go_enter Tryz.func85, Tryz.ntmps85
    go_wp2_with fail
    refine C.out.mono ?_
    rintro e w' ⟨rfl, hp⟩
    have HP := Lib.hid hp
    clear hp C
    go_wp2
    go_end0
    exact ⟨rfl, HP.out⟩
  · have h2 : 67108864 ≤ key := by omega
    clear hk
    go_enter Tryz.func85, Tryz.ntmps85
    go_wp2_with fail
    refine C.out.mono ?_
    rintro e w' ⟨rfl, hp⟩
    have HP := Lib.hid hp
    clear hp C
    go_wp2
    go_end0
    exact ⟨rfl, HP.out⟩

theorem self_int (k : Int) (h : k.natAbs ≤ 9007199254740992) : keyEq (kval (.num (FloatKind.f64.nearest k))) (kval (.num (FloatKind.f64.nearest k))) = true := by
  show ieq 53 78 (kv 53 78 (.num (FloatKind.f64.nearest k))) (kv 53 78 (.num (FloatKind.f64.nearest k))) = true
  rw [ieq_kv]
  show (FloatKind.f64.format.order (FloatKind.f64.nearest k) (FloatKind.f64.nearest k) == some .eq) = true
  rw [beq_iff_eq]
  exact (Fl.order_int h h).2 rfl

/-- RawSetInt at an exact key that does not pad the array part beyond 65536. -/
theorem set_int (t : Tbs) (mt : Value) (S : St) (ks : List Value) (ix : List MapEntry) (key : Int) (v : Value) (isNil : Bool) (w : World) (hv : Val v isNil) (hx : key.natAbs ≤ 9007199254740992) (hk : ¬ (65536 < key ∧ key < 67108864)) (hkl : ks.length ≤ 1048576) (hl : S.arr.length ≤ 65536) (h : Tab w t mt S ks ix) :
    Calls Tryz.prog 85 #[.pointer (some ⟨t.T, 0, none⟩), .int .i64 key, v] w (SetKey t mt S ks (.num (FloatKind.f64.nearest key)) v w) := by
  by_cases hin : 1 ≤ key ∧ key < 67108864
  · obtain ⟨i, rfl⟩ : ∃ i : Nat, key = (i : Int) + 1 := ⟨(key - 1).toNat, by omega⟩
    have hb : Fl.akey (FloatKind.f64.nearest ((i : Int) + 1)) = some (i + 1) := by
      rw [Fl.akey_int hx, if_pos hin]
      congr 1
    exact (set_int_arr t mt S ks ix i v isNil w hv (by omega) hl h).mono (fun _ _ hp => hp.key hb (by omega))
  · have hb : Fl.akey (FloatKind.f64.nearest key) = none := by rw [Fl.akey_int hx, if_neg hin]
    exact (set_int_far t mt S ks ix key v isNil w hv (by omega) hkl (self_int key hx) h).mono (fun _ _ hp => hp.key hv hb)

set_option maxHeartbeats 400000 in
theorem l_set_int (L : Option Addr) (t : Tbs) (mt : Value) (S : St) (ks : List Value) (ix : List MapEntry) (key : Int) (v : Value) (isNil : Bool) (w : World) (hv : Val v isNil) (hx : key.natAbs ≤ 9007199254740992) (hk : ¬ (65536 < key ∧ key < 67108864)) (hkl : ks.length ≤ 1048576) (hl : S.arr.length ≤ 65536) (h : Tab w t mt S ks ix) :
    Calls Tryz.prog 72 #[.pointer L, .pointer (some ⟨t.T, 0, none⟩), .int .i64 key, v] w (SetKey t mt S ks (.num (FloatKind.f64.nearest key)) v w) := by
  have C := Lib.hid (set_int t mt S ks ix key v isNil w hv hx hk hkl hl h)
  clear hv hx hk hkl hl h
  go_enter Tryz.func72, Tryz.ntmps72
  go_wp2_with fail
  refine C.out.mono ?_
  rintro e w' ⟨rfl, hp⟩
  have HP := Lib.hid hp
  clear hp C
  go_wp2
  go_end0
  exact ⟨rfl, HP.out⟩
end Go.Proofs.YtlmadbgpllokfaaGreatFmt
