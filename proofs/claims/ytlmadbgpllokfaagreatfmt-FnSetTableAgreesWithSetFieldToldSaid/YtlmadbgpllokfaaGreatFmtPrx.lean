/- A table whose metatable names a proxy under __newindex: SetField, SetTable: walked. -/
import Derived.Test.YtlmadbgpllokfaaGreatFmtFsb
namespace Go.Proofs.YtlmadbgpllokfaaGreatFmt
open Go.RowKit Go.Mapy Go.Tbl
set_option maxRecDepth 100000

/-- The metatable's key. -/
def nxs : ByteArray := (ByteArray.mk #[95, 95, 110, 101, 119, 105, 110, 100, 101, 120])

def Dis (t t' : Tbs) : Prop := ∀ c, Fp t c → ¬ Fp t' c
theorem Dis.symm {t t' : Tbs} (h : Dis t t') : Dis t' t := fun c h1 h2 => h c h2 h1
/-- What is new lies apart from what was there. -/
theorem Dis.turn {w : World} {t t2 t' : Tbs} {mt : Value} {S : St} {ks : List Value} {ix : List MapEntry} (h : Dis t t') (hn : ∀ c, Fp t2 c → Fp t c ∨ w.heap.size ≤ c) (ht : Tab w t' mt S ks ix) : Dis t2 t' := fun c h1 h2 => by
  rcases hn c h1 with h3 | h3
  · exact h c h3 h2
  · have := ht.lt h2
    omega

/-- A table, its metatable, its proxy. -/
structure Trio (w : World) (t m p : Tbs) (S : St) (ks : List Value) (ix : List MapEntry) (Sm : St) (km : List Value) (im : List MapEntry) (Sp : St) (kp : List Value) (ip : List MapEntry) : Prop where
  tt : Tab w t (tabv m.T) S ks ix
  tm : Tab w m nilw Sm km im
  tp : Tab w p nilw Sp kp ip
  nx : holds Sm (.str nxs) = tabv p.T
  d1 : Dis t m
  d2 : Dis t p
  d3 : Dis m p
def Fp3 (t m p : Tbs) (c : Nat) : Prop := Fp t c ∨ Fp m c ∨ Fp p c
theorem Trio.upd {w w' : World} {t m p : Tbs} {S : St} {ks : List Value} {ix : List MapEntry} {Sm : St} {km : List Value} {im : List MapEntry} {Sp : St} {kp : List Value} {ip : List MapEntry} (h : Trio w t m p S ks ix Sm km im Sp kp ip) {X : Nat → Prop} (hu : Upd X w w') (hX : ∀ c, Fp3 t m p c → ¬ X c) : Trio w' t m p S ks ix Sm km im Sp kp ip :=
  ⟨h.tt.upd hu (fun c hc => hX c (.inl hc)), h.tm.upd hu (fun c hc => hX c (.inr (.inl hc))), h.tp.upd hu (fun c hc => hX c (.inr (.inr hc))), h.nx, h.d1, h.d2, h.d3⟩
theorem Trio.lt {w : World} {t m p : Tbs} {S : St} {ks : List Value} {ix : List MapEntry} {Sm : St} {km : List Value} {im : List MapEntry} {Sp : St} {kp : List Value} {ip : List MapEntry} (h : Trio w t m p S ks ix Sm km im Sp kp ip) {c : Nat} (hc : Fp3 t m p c) : c < w.heap.size := by
  rcases hc with h1 | h1 | h1
  · exact h.tt.lt h1
  · exact h.tm.lt h1
  · exact h.tp.lt h1

/-- What a store by way of the metatable leaves: in the table where the key is there, in the proxy where it is not. -/
def SetTrio (t m p : Tbs) (S : St) (ks : List Value) (Sm : St) (km : List Value) (im : List MapEntry) (Sp : St) (kp : List Value) (k : Key) (v : Value) (here : Bool) (w : World) (e : Ending) (w' : World) : Prop :=
  e = .returned (.tuple #[]) ∧ ∃ t' p' S' ks' ix' Sp' kp' ip', t'.T = t.T ∧ p'.T = p.T ∧ Upd (Fp3 t m p) w w' ∧ (∀ c, Fp3 t' m p' c → Fp3 t m p c ∨ w.heap.size ≤ c) ∧ Trio w' t' m p' S' ks' ix' Sm km im Sp' kp' ip' ∧
    (∀ q, holds S' q = if here && keq q k then v else holds S q) ∧ (∀ q, holds Sp' q = if !here && keq q k then v else holds Sp q) ∧ ks'.length ≤ ks.length + 1 ∧ kp'.length ≤ kp.length + 1 ∧ S'.arr.length ≤ max S.arr.length 65536 ∧ Sp'.arr.length ≤ max Sp.arr.length 65536
theorem SetKey.trio {t m p : Tbs} {S : St} {ks : List Value} {ix : List MapEntry} {Sm : St} {km : List Value} {im : List MapEntry} {Sp : St} {kp : List Value} {ip : List MapEntry} {k : Key} {v : Value} {w w' : World} {e : Ending} (H : Trio w t m p S ks ix Sm km im Sp kp ip) (h : SetKey t (tabv m.T) S ks k v w e w') : SetTrio t m p S ks Sm km im Sp kp k v true w e w' := by
  obtain ⟨he, t', S', ks', ix', h1, h2, h3, h4, h5, h6, h7⟩ := h
  refine ⟨he, t', p, S', ks', ix', Sp, kp, ip, h1, rfl, h2.mono (fun c _ hc => .inl hc), fun c hc => ?_, ⟨h4, H.tm.upd h2 (fun c hc ht => H.d1 c ht hc), H.tp.upd h2 (fun c hc ht => H.d2 c ht hc), H.nx, H.d1.turn h3 H.tm, H.d2.turn h3 H.tp, H.d3⟩, fun q => by rw [h5]; simp, fun q => by simp, h7, by omega, h6, by omega⟩
  rcases hc with hc | hc | hc
  · rcases h3 c hc with h | h
    · exact .inl (.inl h)
    · exact .inr h
  · exact .inl (.inr (.inl hc))
  · exact .inl (.inr (.inr hc))
theorem SetKey.trip {t m p : Tbs} {S : St} {ks : List Value} {ix : List MapEntry} {Sm : St} {km : List Value} {im : List MapEntry} {Sp : St} {kp : List Value} {ip : List MapEntry} {k : Key} {v : Value} {w w' : World} {e : Ending} (H : Trio w t m p S ks ix Sm km im Sp kp ip) (h : SetKey p nilw Sp kp k v w e w') : SetTrio t m p S ks Sm km im Sp kp k v false w e w' := by
  obtain ⟨he, p', Sp', kp', ip', h1, h2, h3, h4, h5, h6, h7⟩ := h
  refine ⟨he, t, p', S, ks, ix, Sp', kp', ip', rfl, h1, h2.mono (fun c _ hc => .inr (.inr hc)), fun c hc => ?_, ⟨H.tt.upd h2 (fun c hc ht => H.d2 c hc ht), H.tm.upd h2 (fun c hc ht => H.d3 c hc ht), h4, H.nx.trans (by rw [h1]), H.d1, (H.d2.symm.turn h3 H.tt).symm, (H.d3.symm.turn h3 H.tm).symm⟩, fun q => by simp, fun q => by rw [h5]; simp, by omega, h7, by omega, h6⟩
  rcases hc with hc | hc | hc
  · exact .inl (.inl hc)
  · exact .inl (.inr (.inl hc))
  · rcases h3 c hc with h | h
    · exact .inl (.inr (.inr h))
    · exact .inr h
theorem SetTrio.from {t m p : Tbs} {S : St} {ks : List Value} {Sm : St} {km : List Value} {im : List MapEntry} {Sp : St} {kp : List Value} {k : Key} {v : Value} {here : Bool} {w w1 w' : World} {e : Ending} (h : SetTrio t m p S ks Sm km im Sp kp k v here w1 e w') (hu : Upd (fun _ => False) w w1) : SetTrio t m p S ks Sm km im Sp kp k v here w e w' := by
  obtain ⟨he, t', p', S', ks', ix', Sp', kp', ip', h1, h2, h3, h4, h5⟩ := h
  refine ⟨he, t', p', S', ks', ix', Sp', kp', ip', h1, h2, (hu.mono (fun _ _ h => h.elim)).trans h3, fun c hc => ?_, h5⟩
  rcases h4 c hc with h | h
  · exact .inl h
  · exact .inr (Nat.le_trans hu.size h)

set_option maxHeartbeats 1600000 in
theorem prx_fstr_here (L : Option Addr) (t m p : Tbs) (S : St) (ks : List Value) (ix : List MapEntry) (Sm : St) (km : List Value) (im : List MapEntry) (Sp : St) (kp : List Value) (ip : List MapEntry) (s : ByteArray) (v : Value) (isNil : Bool) (w : World) (hx : Val v isNil) (hkl : ks.length ≤ 1048576) (hh : ∃ b, holds S (.str s) = numv b) (h : Trio w t m p S ks ix Sm km im Sp kp ip) :
    Calls Tryz.prog 64 #[.pointer L, tabv t.T, .string s, v] w (SetTrio t m p S ks Sm km im Sp kp (.str s) v true w) := by
  have C := Lib.hid (show ∀ wx, Upd (fun _ => False) w wx → Calls Tryz.prog 44 #[.pointer (some ⟨t.T, 0, none⟩), .string s, v] wx (SetTrio t m p S ks Sm km im Sp kp (.str s) v true w) from fun wx hux =>
    ((set_string t (tabv m.T) S ks ix s v isNil wx hx hkl (h.upd hux (fun _ _ h => h)).tt).mono (fun _ _ hp => hp.key hx)).mono (fun _ _ hp => (SetKey.trio (h.upd hux (fun _ _ h => h)) hp).from hux))
  have H := Lib.hid h
  obtain ⟨b, hb⟩ := hh
  have HV := Lib.hid hb
  clear h hb hx hkl
  unfold tabv
  go_enter Tryz.func64, Tryz.ntmps64
  go_wp2
  go_loopw [8, 9] (fun cv iv wr => cv = .iface 32 (.pointer (some ⟨t.T, 0, none⟩)) ∧ iv = .int .i64 0 ∧ Upd (fun _ => False) w wr) (fun _ _ _ => 0)
  case atStart => exact ⟨rfl, rfl, Upd.refl _ _⟩
  case round =>
    obtain ⟨rfl, rfl, hu⟩ := hrel
    have HU := Lib.hid hu
    have HT := Lib.hid (H.out.upd hu (fun _ _ h => h))
    clear hu
    go_wp2_with fail
    refine ((rget_str t (tabv m.T) S ks ix s _ HT.out.tt).mono (fun e w2 hp => (⟨hp.1, by rw [← hp.2]; exact Upd.refl _ _⟩ : e = .returned (holds S (.str s)) ∧ Upd (fun _ => False) wr w2))).mono ?_
    rintro e w1 ⟨rfl, hu1⟩
    rw [HV.out]
    have U1 := Lib.hid (HU.out.trans hu1)
    clear hu1
    unfold numv
    go_wp2_with fail
    refine (C.out _ U1.out).mono ?_
    rintro e w' hp
    obtain rfl : e = .returned (.tuple #[]) := hp.1
    have HP := Lib.hid hp
    clear hp C
    go_wp2
    go_end0
    exact HP.out

set_option maxHeartbeats 1600000 in
theorem prx_fstr_there (L : Option Addr) (t m p : Tbs) (S : St) (ks : List Value) (ix : List MapEntry) (Sm : St) (km : List Value) (im : List MapEntry) (Sp : St) (kp : List Value) (ip : List MapEntry) (s : ByteArray) (v : Value) (isNil : Bool) (w : World) (hx : Val v isNil) (hkp : kp.length ≤ 1048576) (hh : holds S (.str s) = nilw) (hw : NV (holds Sp (.str s))) (h : Trio w t m p S ks ix Sm km im Sp kp ip) :
    Calls Tryz.prog 64 #[.pointer L, tabv t.T, .string s, v] w (SetTrio t m p S ks Sm km im Sp kp (.str s) v false w) := by
  have C := Lib.hid (show ∀ wx, Upd (fun _ => False) w wx → Calls Tryz.prog 44 #[.pointer (some ⟨p.T, 0, none⟩), .string s, v] wx (SetTrio t m p S ks Sm km im Sp kp (.str s) v false w) from fun wx hux =>
    ((set_string p nilw Sp kp ip s v isNil wx hx hkp (h.upd hux (fun _ _ h => h)).tp).mono (fun _ _ hp => hp.key hx)).mono (fun _ _ hp => (SetKey.trip (h.upd hux (fun _ _ h => h)) hp).from hux))
  have H := Lib.hid h
  have HV := Lib.hid hh
  obtain ⟨hw1, hw0⟩ : ∃ hw1, holds Sp (.str s) = hw1 := ⟨_, rfl⟩
  rw [hw0] at hw
  have HW := Lib.hid hw0
  clear h hh hw0 hx hkp
  unfold tabv
  go_enter Tryz.func64, Tryz.ntmps64
  go_wp2
  go_loopw [8, 9] (fun cv iv wr => Upd (fun _ => False) w wr ∧ ((iv = .int .i64 0 ∧ cv = .iface 32 (.pointer (some ⟨t.T, 0, none⟩))) ∨ (iv = .int .i64 1 ∧ cv = .iface 32 (.pointer (some ⟨p.T, 0, none⟩))))) (fun _ iv _ => 2 - (intOf iv).toNat)
  case atStart => exact ⟨Upd.refl _ _, .inl ⟨rfl, rfl⟩⟩
  case round =>
    obtain ⟨hu, hc⟩ := hrel
    have HU := Lib.hid hu
    have HT := Lib.hid (H.out.upd hu (fun _ _ h => h))
    clear hu
    rcases hc with ⟨rfl, rfl⟩ | ⟨rfl, rfl⟩
    · go_wp2_with fail
      refine ((rget_str t (tabv m.T) S ks ix s _ HT.out.tt).mono (fun e w2 hp => (⟨hp.1, by rw [← hp.2]; exact Upd.refl _ _⟩ : e = .returned (holds S (.str s)) ∧ Upd (fun _ => False) wr w2))).mono ?_
      rintro e w1 ⟨rfl, hu1⟩
      rw [HV.out]
      have U1 := Lib.hid (HU.out.trans hu1)
      have T1 := Lib.hid (HT.out.upd hu1 (fun _ _ h => h))
      clear hu1
      unfold nilw
      go_wp2_with fail
      refine (op1_tab L t.T m nilw Sm km im nxs _ (T1.out.tt.tb.at (o := 0) rfl) T1.out.tm).mono ?_
      rintro e w' ⟨rfl, rfl⟩
      rw [H.out.nx]
      unfold tabv
      go_wp2_with fail
      refine (tab_type _ _).mono ?_
      rintro e w' ⟨rfl, rfl⟩
      go_wp2
      go_roundw
      case rel => exact ⟨U1.out, .inr ⟨rfl, rfl⟩⟩
      case measure => simp [intOf]
    ·
      go_wp2_with fail
      refine ((rget_str p nilw Sp kp ip s _ HT.out.tp).mono (fun e w2 hp => (⟨hp.1, by rw [← hp.2]; exact Upd.refl _ _⟩ : e = .returned (holds Sp (.str s)) ∧ Upd (fun _ => False) wr w2))).mono ?_
      rintro e w1 ⟨rfl, hu1⟩
      rw [HW.out]
      have U1 := Lib.hid (HU.out.trans hu1)
      have T1 := Lib.hid (HT.out.upd hu1 (fun _ _ h => h))
      clear hu1
      rcases hw with rfl | ⟨b, rfl⟩
      · unfold nilw
        go_wp2_with fail
        refine (op1_nil L p Sp kp ip _ _ T1.out.tp).mono ?_
        rintro e w' ⟨rfl, rfl⟩
        unfold nilw
        go_wp2_with fail
        refine (C.out _ U1.out).mono ?_
        rintro e w' hp
        obtain rfl : e = .returned (.tuple #[]) := hp.1
        have HP := Lib.hid hp
        clear hp C
        go_wp2
        go_end0
        exact HP.out
      · go_wp2_with fail
        refine (C.out _ U1.out).mono ?_
        rintro e w' hp
        obtain rfl : e = .returned (.tuple #[]) := hp.1
        have HP := Lib.hid hp
        clear hp C
        go_wp2
        go_end0
        exact HP.out

set_option maxHeartbeats 1600000 in
theorem prx_fkey_here (L : Option Addr) (t m p : Tbs) (S : St) (ks : List Value) (ix : List MapEntry) (Sm : St) (km : List Value) (im : List MapEntry) (Sp : St) (kp : List Value) (ip : List MapEntry) (s : ByteArray) (v : Value) (isNil : Bool) (w : World) (hx : Val v isNil) (hkl : ks.length ≤ 1048576) (hh : ∃ b, holds S (.str s) = numv b) (h : Trio w t m p S ks ix Sm km im Sp kp ip) :
    Calls Tryz.prog 68 #[.pointer L, tabv t.T, .iface 78 (.string s), v] w (SetTrio t m p S ks Sm km im Sp kp (.str s) v true w) := by
  have C := Lib.hid (show ∀ wx, Upd (fun _ => False) w wx → Calls Tryz.prog 59 #[.pointer L, .pointer (some ⟨t.T, 0, none⟩), .iface 78 (.string s), v] wx (SetTrio t m p S ks Sm km im Sp kp (.str s) v true w) from fun wx hux =>
    ((l_set_str L t (tabv m.T) S ks ix s v isNil wx hx hkl (h.upd hux (fun _ _ h => h)).tt).mono (fun _ _ hp => hp.key hx)).mono (fun _ _ hp => (SetKey.trio (h.upd hux (fun _ _ h => h)) hp).from hux))
  have H := Lib.hid h
  obtain ⟨b, hb⟩ := hh
  have HV := Lib.hid hb
  clear h hb hx hkl
  unfold tabv
  go_enter Tryz.func68, Tryz.ntmps68
  go_wp2
  go_loopw [8, 9] (fun cv iv wr => cv = .iface 32 (.pointer (some ⟨t.T, 0, none⟩)) ∧ iv = .int .i64 0 ∧ Upd (fun _ => False) w wr) (fun _ _ _ => 0)
  case atStart => exact ⟨rfl, rfl, Upd.refl _ _⟩
  case round =>
    obtain ⟨rfl, rfl, hu⟩ := hrel
    have HU := Lib.hid hu
    have HT := Lib.hid (H.out.upd hu (fun _ _ h => h))
    clear hu
    go_wp2_with fail
    refine (rget_key t (tabv m.T) S ks ix (.str s) _ HT.out.tt).mono ?_
    rintro e w1 ⟨rfl, hu1⟩
    rw [HV.out]
    have U1 := Lib.hid (HU.out.trans hu1)
    clear hu1
    unfold numv
    go_wp2_with fail
    refine (C.out _ U1.out).mono ?_
    rintro e w' hp
    obtain rfl : e = .returned (.tuple #[]) := hp.1
    have HP := Lib.hid hp
    clear hp C
    go_wp2
    go_end0
    exact HP.out

set_option maxHeartbeats 1600000 in
theorem prx_fkey_there (L : Option Addr) (t m p : Tbs) (S : St) (ks : List Value) (ix : List MapEntry) (Sm : St) (km : List Value) (im : List MapEntry) (Sp : St) (kp : List Value) (ip : List MapEntry) (s : ByteArray) (v : Value) (isNil : Bool) (w : World) (hx : Val v isNil) (hkp : kp.length ≤ 1048576) (hh : holds S (.str s) = nilw) (hw : NV (holds Sp (.str s))) (h : Trio w t m p S ks ix Sm km im Sp kp ip) :
    Calls Tryz.prog 68 #[.pointer L, tabv t.T, .iface 78 (.string s), v] w (SetTrio t m p S ks Sm km im Sp kp (.str s) v false w) := by
  have C := Lib.hid (show ∀ wx, Upd (fun _ => False) w wx → Calls Tryz.prog 59 #[.pointer L, .pointer (some ⟨p.T, 0, none⟩), .iface 78 (.string s), v] wx (SetTrio t m p S ks Sm km im Sp kp (.str s) v false w) from fun wx hux =>
    ((l_set_str L p nilw Sp kp ip s v isNil wx hx hkp (h.upd hux (fun _ _ h => h)).tp).mono (fun _ _ hp => hp.key hx)).mono (fun _ _ hp => (SetKey.trip (h.upd hux (fun _ _ h => h)) hp).from hux))
  have H := Lib.hid h
  have HV := Lib.hid hh
  obtain ⟨hw1, hw0⟩ : ∃ hw1, holds Sp (.str s) = hw1 := ⟨_, rfl⟩
  rw [hw0] at hw
  have HW := Lib.hid hw0
  clear h hh hw0 hx hkp
  unfold tabv
  go_enter Tryz.func68, Tryz.ntmps68
  go_wp2
  go_loopw [8, 9] (fun cv iv wr => Upd (fun _ => False) w wr ∧ ((iv = .int .i64 0 ∧ cv = .iface 32 (.pointer (some ⟨t.T, 0, none⟩))) ∨ (iv = .int .i64 1 ∧ cv = .iface 32 (.pointer (some ⟨p.T, 0, none⟩))))) (fun _ iv _ => 2 - (intOf iv).toNat)
  case atStart => exact ⟨Upd.refl _ _, .inl ⟨rfl, rfl⟩⟩
  case round =>
    obtain ⟨hu, hc⟩ := hrel
    have HU := Lib.hid hu
    have HT := Lib.hid (H.out.upd hu (fun _ _ h => h))
    clear hu
    rcases hc with ⟨rfl, rfl⟩ | ⟨rfl, rfl⟩
    · go_wp2_with fail
      refine (rget_key t (tabv m.T) S ks ix (.str s) _ HT.out.tt).mono ?_
      rintro e w1 ⟨rfl, hu1⟩
      rw [HV.out]
      have U1 := Lib.hid (HU.out.trans hu1)
      have T1 := Lib.hid (HT.out.upd hu1 (fun _ _ h => h))
      clear hu1
      unfold nilw
      go_wp2_with fail
      refine (op1_tab L t.T m nilw Sm km im nxs _ (T1.out.tt.tb.at (o := 0) rfl) T1.out.tm).mono ?_
      rintro e w' ⟨rfl, rfl⟩
      rw [H.out.nx]
      unfold tabv
      go_wp2_with fail
      refine (tab_type _ _).mono ?_
      rintro e w' ⟨rfl, rfl⟩
      go_wp2
      go_roundw
      case rel => exact ⟨U1.out, .inr ⟨rfl, rfl⟩⟩
      case measure => simp [intOf]
    ·
      go_wp2_with fail
      refine (rget_key p nilw Sp kp ip (.str s) _ HT.out.tp).mono ?_
      rintro e w1 ⟨rfl, hu1⟩
      rw [HW.out]
      have U1 := Lib.hid (HU.out.trans hu1)
      have T1 := Lib.hid (HT.out.upd hu1 (fun _ _ h => h))
      clear hu1
      rcases hw with rfl | ⟨b, rfl⟩
      · unfold nilw
        go_wp2_with fail
        refine (op1_nil L p Sp kp ip _ _ T1.out.tp).mono ?_
        rintro e w' ⟨rfl, rfl⟩
        unfold nilw
        go_wp2_with fail
        refine (C.out _ U1.out).mono ?_
        rintro e w' hp
        obtain rfl : e = .returned (.tuple #[]) := hp.1
        have HP := Lib.hid hp
        clear hp C
        go_wp2
        go_end0
        exact HP.out
      · go_wp2_with fail
        refine (C.out _ U1.out).mono ?_
        rintro e w' hp
        obtain rfl : e = .returned (.tuple #[]) := hp.1
        have HP := Lib.hid hp
        clear hp C
        go_wp2
        go_end0
        exact HP.out

/-- prx_field: the key's place decides. -/
theorem prx_field (L : Option Addr) (t m p : Tbs) (S : St) (ks : List Value) (ix : List MapEntry) (Sm : St) (km : List Value) (im : List MapEntry) (Sp : St) (kp : List Value) (ip : List MapEntry) (s : ByteArray) (v : Value) (isNil : Bool) (w : World) (hx : Val v isNil) (hkl : ks.length ≤ 1048576) (hkp : kp.length ≤ 1048576) (hh : NV (holds S (.str s))) (hw : NV (holds Sp (.str s))) (h : Trio w t m p S ks ix Sm km im Sp kp ip) :
    ∃ here, (here = true ↔ ∃ b, holds S (.str s) = numv b) ∧ Calls Tryz.prog 32 #[.pointer L, tabv t.T, .string s, v] w (SetTrio t m p S ks Sm km im Sp kp (.str s) v here w) := by
  obtain ⟨here, hi, C⟩ : ∃ here, (here = true ↔ ∃ b, holds S (.str s) = numv b) ∧ Calls Tryz.prog 64 #[.pointer L, tabv t.T, .string s, v] w (SetTrio t m p S ks Sm km im Sp kp (.str s) v here w) := by
    rcases hh with hn | hb
    · exact ⟨false, ⟨(fun h => by cases h), (fun ⟨b, hb⟩ => by rw [hn] at hb; cases hb)⟩, prx_fstr_there L t m p S ks ix Sm km im Sp kp ip s v isNil w hx hkp hn hw h⟩
    · exact ⟨true, ⟨fun _ => hb, fun _ => rfl⟩, prx_fstr_here L t m p S ks ix Sm km im Sp kp ip s v isNil w hx hkl hb h⟩
  refine ⟨here, hi, ?_⟩
  have CC := Lib.hid C
  clear C hi hx hkl hkp hh hw h
  go_enter Tryz.func32, Tryz.ntmps32
  go_wp2_with fail
  refine CC.out.mono ?_
  rintro e w' hp
  obtain rfl : e = .returned (.tuple #[]) := hp.1
  have HP := Lib.hid hp
  clear hp CC
  go_wp2
  go_end0
  exact HP.out

/-- prx_table: the key's place decides. -/
theorem prx_table (L : Option Addr) (t m p : Tbs) (S : St) (ks : List Value) (ix : List MapEntry) (Sm : St) (km : List Value) (im : List MapEntry) (Sp : St) (kp : List Value) (ip : List MapEntry) (s : ByteArray) (v : Value) (isNil : Bool) (w : World) (hx : Val v isNil) (hkl : ks.length ≤ 1048576) (hkp : kp.length ≤ 1048576) (hh : NV (holds S (.str s))) (hw : NV (holds Sp (.str s))) (h : Trio w t m p S ks ix Sm km im Sp kp ip) :
    ∃ here, (here = true ↔ ∃ b, holds S (.str s) = numv b) ∧ Calls Tryz.prog 39 #[.pointer L, tabv t.T, .iface 78 (.string s), v] w (SetTrio t m p S ks Sm km im Sp kp (.str s) v here w) := by
  obtain ⟨here, hi, C⟩ : ∃ here, (here = true ↔ ∃ b, holds S (.str s) = numv b) ∧ Calls Tryz.prog 68 #[.pointer L, tabv t.T, .iface 78 (.string s), v] w (SetTrio t m p S ks Sm km im Sp kp (.str s) v here w) := by
    rcases hh with hn | hb
    · exact ⟨false, ⟨(fun h => by cases h), (fun ⟨b, hb⟩ => by rw [hn] at hb; cases hb)⟩, prx_fkey_there L t m p S ks ix Sm km im Sp kp ip s v isNil w hx hkp hn hw h⟩
    · exact ⟨true, ⟨fun _ => hb, fun _ => rfl⟩, prx_fkey_here L t m p S ks ix Sm km im Sp kp ip s v isNil w hx hkl hb h⟩
  refine ⟨here, hi, ?_⟩
  have CC := Lib.hid C
  clear C hi hx hkl hkp hh hw h
  go_enter Tryz.func39, Tryz.ntmps39
  go_wp2_with fail
  refine CC.out.mono ?_
  rintro e w' hp
  obtain rfl : e = .returned (.tuple #[]) := hp.1
  have HP := Lib.hid hp
  clear hp CC
  go_wp2
  go_end0
  exact HP.out

end Go.Proofs.YtlmadbgpllokfaaGreatFmt
