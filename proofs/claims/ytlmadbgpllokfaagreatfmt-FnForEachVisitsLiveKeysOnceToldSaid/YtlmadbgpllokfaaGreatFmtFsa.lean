/- Fields by way of metatables: RawGetString, metatable, metaOp1, getFieldString, setFieldString, getField, setField: walked. -/
import Derived.Test.YtlmadbgpllokfaaGreatFmtSkn
namespace Go.Proofs.YtlmadbgpllokfaaGreatFmt
open Go.RowKit Go.Mapy Go.Tbl
set_option maxRecDepth 100000

@[go_sem] theorem nnNUM (x : Value) (w : World) : (binOp .neq 49 (.iface 53 x) (.iface 69 (.int .u8 0))).run Tryz.prog w = .ok (.bool true) w := by kernel_rfl
@[go_sem] theorem nnTAB (x : Value) (w : World) : (binOp .neq 49 (.iface 32 x) (.iface 69 (.int .u8 0))).run Tryz.prog w = .ok (.bool true) w := by kernel_rfl
@[go_sem] theorem nnNIL (w : World) : (binOp .neq 49 (.iface 69 (.int .u8 0)) (.iface 69 (.int .u8 0))).run Tryz.prog w = .ok (.bool false) w := by kernel_rfl
@[go_sem] theorem enNUM (x : Value) (w : World) : (binOp .eql 49 (.iface 53 x) (.iface 69 (.int .u8 0))).run Tryz.prog w = .ok (.bool false) w := by kernel_rfl
@[go_sem] theorem enTAB (x : Value) (w : World) : (binOp .eql 49 (.iface 32 x) (.iface 69 (.int .u8 0))).run Tryz.prog w = .ok (.bool false) w := by kernel_rfl
@[go_sem] theorem enNIL (w : World) : (binOp .eql 49 (.iface 69 (.int .u8 0)) (.iface 69 (.int .u8 0))).run Tryz.prog w = .ok (.bool true) w := by kernel_rfl

/-- A number, or nil. -/
def NV (v : Value) : Prop := v = nilw ∨ ∃ b, v = .iface 53 (.float .f64 b)

set_option maxHeartbeats 400000 in
theorem rget_str (t : Tbs) (mt : Value) (S : St) (ks : List Value) (ix : List MapEntry) (s : ByteArray) (w : World) (h : Tab w t mt S ks ix) :
    Calls Tryz.prog 46 #[.pointer (some ⟨t.T, 0, none⟩), .string s] w fun e w' => e = .returned (holds S (.str s)) ∧ w = w' := by
  have c3 := h.tb.at (o := 3) rfl
  obtain ⟨es0, c0, hms, hes⟩ := h.st
  have hsk : ∀ e ∈ es0.toList, IsStr e.key := fun e he => by rw [hes] at he; exact (h.fs.keys e he).1
  have K := str_run s es0.toList hsk
  cases hsp : spot seq (.string s) es0.toList 0 with
  | some p =>
    have hl := look_some w Tryz.underlying86 hms K hsp true
    have e1 : holds S (.str s) = p.2 := by
      show (cont seq (.string s) S.str).getD nilw = _
      rw [← hes]
      unfold cont
      rw [hsp]
      rfl
    have E1 := Lib.hid e1
    clear h hms hes hsk K hsp e1
    go_enter Tryz.func46, Tryz.ntmps46
    go_wp2
    go_ret
    exact ⟨by rw [E1.out]; rfl, rfl⟩
  | none =>
    have hl := look_none (z := .nilIface) w Tryz.underlying86 (by kernel_rfl) hms K hsp true
    have e1 : holds S (.str s) = nilw := by
      show (cont seq (.string s) S.str).getD nilw = _
      rw [← hes]
      unfold cont
      rw [hsp]
      rfl
    have E1 := Lib.hid e1
    clear h hms hes hsk K hsp e1
    go_enter Tryz.func46, Tryz.ntmps46
    go_wp2
    go_ret
    exact ⟨by rw [E1.out]; rfl, rfl⟩

/-- RawGet at any key. -/
theorem rget_key (t : Tbs) (mt : Value) (S : St) (ks : List Value) (ix : List MapEntry) (k : Key) (w : World) (h : Tab w t mt S ks ix) :
    Calls Tryz.prog 62 #[.pointer (some ⟨t.T, 0, none⟩), kval k] w fun e w' => e = .returned (holds S k) ∧ Upd (fun _ => False) w w' := by
  cases k with
  | str s => exact (tget_str t mt S ks ix s w h).mono (fun e w' hp => ⟨hp.1, by rw [← hp.2]; exact Upd.refl _ _⟩)
  | num b => exact (get_num t mt S ks ix b w h).mono (fun e w' ⟨n, h1, h2⟩ => ⟨h1, by rw [h2]; exact (Upd.refl _ _).drewN n⟩)

set_option maxHeartbeats 400000 in
theorem meta_of (L : Option Addr) (T : Nat) (mt : Value) (w : World) (hm : w.cell? ⟨T, 0, none⟩ = some mt) :
    Calls Tryz.prog 90 #[.pointer L, tabv T, .bool true] w fun e w' => e = .returned mt ∧ w = w' := by
  unfold tabv
  go_enter Tryz.func90, Tryz.ntmps90
  go_wp2
  go_ret
  exact ⟨rfl, rfl⟩

set_option maxHeartbeats 400000 in
theorem op1_nil (L : Option Addr) (t : Tbs) (S : St) (ks : List Value) (ix : List MapEntry) (ev : ByteArray) (w : World) (h : Tab w t nilw S ks ix) :
    Calls Tryz.prog 79 #[.pointer L, tabv t.T, .string ev] w fun e w' => e = .returned nilw ∧ w = w' := by
  have hm := Lib.hid (h.tb.at (o := 0) (v := nilw) rfl)
  clear h
  go_enter Tryz.func79, Tryz.ntmps79
  go_wp2_with fail
  refine (meta_of L t.T nilw _ hm.out).mono ?_
  rintro e w' ⟨rfl, rfl⟩
  unfold nilw
  go_wp2
  go_ret
  exact ⟨rfl, rfl⟩

set_option maxHeartbeats 400000 in
theorem op1_tab (L : Option Addr) (T : Nat) (tm : Tbs) (mm : Value) (Sm : St) (km : List Value) (im : List MapEntry) (ev : ByteArray) (w : World) (hm : w.cell? ⟨T, 0, none⟩ = some (tabv tm.T)) (h : Tab w tm mm Sm km im) :
    Calls Tryz.prog 79 #[.pointer L, tabv T, .string ev] w fun e w' => e = .returned (holds Sm (.str ev)) ∧ w = w' := by
  have HM := Lib.hid hm
  have H := Lib.hid h
  clear h hm
  go_enter Tryz.func79, Tryz.ntmps79
  go_wp2_with fail
  refine (meta_of L T (tabv tm.T) _ HM.out).mono ?_
  rintro e w' ⟨rfl, rfl⟩
  unfold tabv
  go_wp2_with fail
  refine (rget_str tm mm Sm km im ev _ H.out).mono ?_
  rintro e w' ⟨rfl, rfl⟩
  go_wp2
  go_ret
  exact ⟨rfl, rfl⟩

set_option maxHeartbeats 400000 in
theorem tab_type (x : Option Addr) (w : World) : Calls Tryz.prog 226 #[.pointer x] w fun e w' => e = .returned (.int .i64 7) ∧ w = w' := by
  go_enter Tryz.func226, Tryz.ntmps226
  go_wp2
  go_ret
  exact ⟨rfl, rfl⟩

set_option maxHeartbeats 800000 in
theorem get_fstr (L : Option Addr) (t : Tbs) (S : St) (ks : List Value) (ix : List MapEntry) (s : ByteArray) (w : World) (hv : NV (holds S (.str s))) (h : Tab w t nilw S ks ix) :
    Calls Tryz.prog 65 #[.pointer L, tabv t.T, .string s] w fun e w' => e = .returned (holds S (.str s)) ∧ Upd (fun _ => False) w w' := by
  have H := Lib.hid h
  obtain ⟨v, hv0⟩ : ∃ v, holds S (.str s) = v := ⟨_, rfl⟩
  rw [hv0] at hv ⊢
  have HV := Lib.hid hv0
  clear h hv0
  unfold tabv
  go_enter Tryz.func65, Tryz.ntmps65
  go_wp2
  go_loopw [7, 8] (fun cv iv wr => cv = .iface 32 (.pointer (some ⟨t.T, 0, none⟩)) ∧ iv = .int .i64 0 ∧ Upd (fun _ => False) w wr) (fun _ _ _ => 0)
  case atStart => exact ⟨rfl, rfl, Upd.refl _ _⟩
  case round =>
    obtain ⟨rfl, rfl, hu⟩ := hrel
    have HU := Lib.hid hu
    have HT := Lib.hid (H.out.upd hu (fun _ _ h => h))
    clear hu
    go_wp2_with fail
    refine ((rget_str t nilw S ks ix s _ HT.out).mono (fun e w2 hp => (⟨hp.1, by rw [← hp.2]; exact Upd.refl _ _⟩ : e = .returned (holds S (.str s)) ∧ Upd (fun _ => False) wr w2))).mono ?_
    rintro e w1 ⟨rfl, hu1⟩
    rw [HV.out]
    have U1 := Lib.hid (HU.out.trans hu1)
    have T1 := Lib.hid (HT.out.upd hu1 (fun _ _ h => h))
    clear hu1
    rcases hv with rfl | ⟨b, rfl⟩
    · unfold nilw
      go_wp2_with fail
      refine (op1_nil L t S ks ix _ _ T1.out).mono ?_
      rintro e w' ⟨rfl, rfl⟩
      unfold nilw
      go_wp2
      go_ret
      exact ⟨rfl, U1.out⟩
    · go_wp2
      go_ret
      exact ⟨rfl, U1.out⟩

set_option maxHeartbeats 800000 in
theorem get_fkey (L : Option Addr) (t : Tbs) (S : St) (ks : List Value) (ix : List MapEntry) (k : Key) (w : World) (hv : NV (holds S k)) (h : Tab w t nilw S ks ix) :
    Calls Tryz.prog 69 #[.pointer L, tabv t.T, kval k] w fun e w' => e = .returned (holds S k) ∧ Upd (fun _ => False) w w' := by
  have H := Lib.hid h
  obtain ⟨v, hv0⟩ : ∃ v, holds S k = v := ⟨_, rfl⟩
  rw [hv0] at hv ⊢
  have HV := Lib.hid hv0
  clear h hv0
  unfold tabv
  go_enter Tryz.func69, Tryz.ntmps69
  go_wp2
  go_loopw [7, 8] (fun cv iv wr => cv = .iface 32 (.pointer (some ⟨t.T, 0, none⟩)) ∧ iv = .int .i64 0 ∧ Upd (fun _ => False) w wr) (fun _ _ _ => 0)
  case atStart => exact ⟨rfl, rfl, Upd.refl _ _⟩
  case round =>
    obtain ⟨rfl, rfl, hu⟩ := hrel
    have HU := Lib.hid hu
    have HT := Lib.hid (H.out.upd hu (fun _ _ h => h))
    clear hu
    go_wp2_with fail
    refine (rget_key t nilw S ks ix k _ HT.out).mono ?_
    rintro e w1 ⟨rfl, hu1⟩
    rw [HV.out]
    have U1 := Lib.hid (HU.out.trans hu1)
    have T1 := Lib.hid (HT.out.upd hu1 (fun _ _ h => h))
    clear hu1
    rcases hv with rfl | ⟨b, rfl⟩
    · unfold nilw
      go_wp2_with fail
      refine (op1_nil L t S ks ix _ _ T1.out).mono ?_
      rintro e w' ⟨rfl, rfl⟩
      unfold nilw
      go_wp2
      go_ret
      exact ⟨rfl, U1.out⟩
    · go_wp2
      go_ret
      exact ⟨rfl, U1.out⟩

set_option maxHeartbeats 800000 in
theorem set_fstr (L : Option Addr) (t : Tbs) (S : St) (ks : List Value) (ix : List MapEntry) (s : ByteArray) (v : Value) (isNil : Bool) (w : World) (hx : Val v isNil) (hkl : ks.length ≤ 1048576) (hv : NV (holds S (.str s))) (h : Tab w t nilw S ks ix) :
    Calls Tryz.prog 64 #[.pointer L, tabv t.T, .string s, v] w (SetKey t nilw S ks (.str s) v w) := by
  have C := Lib.hid (show ∀ wx, Upd (fun _ => False) w wx → Calls Tryz.prog 44 #[.pointer (some ⟨t.T, 0, none⟩), .string s, v] wx (SetKey t nilw S ks (.str s) v w) from fun wx hux =>
    ((set_string t nilw S ks ix s v isNil wx hx hkl (h.upd hux (fun _ _ h => h))).mono (fun _ _ hp => hp.key hx)).mono (fun _ _ hp => hp.from hux))
  have H := Lib.hid h
  obtain ⟨hv1, hv0⟩ : ∃ hv1, holds S (.str s) = hv1 := ⟨_, rfl⟩
  rw [hv0] at hv
  have HV := Lib.hid hv0
  clear h hv0 hx hkl 
  unfold tabv
  go_enter Tryz.func64, Tryz.ntmps64
  go_wp2
  go_loopw [8, 9] (fun cv iv wr => cv = .iface 32 (.pointer (some ⟨t.T, 0, none⟩)) ∧ iv = .int .i64 0 ∧ Upd (fun _ => False) w wr) (fun _ _ _ => 0)
  case atStart => exact ⟨rfl, rfl, Upd.refl _ _⟩
  case round =>
    obtain ⟨rfl, rfl, hu⟩ := hrel
    have HU := Lib.hid hu
    have HT := Lib.hid (H.out.upd hu (fun _ _ h => h))
    clear hu
    go_wp2_with fail
    refine ((rget_str t nilw S ks ix s _ HT.out).mono (fun e w2 hp => (⟨hp.1, by rw [← hp.2]; exact Upd.refl _ _⟩ : e = .returned (holds S (.str s)) ∧ Upd (fun _ => False) wr w2))).mono ?_
    rintro e w1 ⟨rfl, hu1⟩
    rw [HV.out]
    have U1 := Lib.hid (HU.out.trans hu1)
    have T1 := Lib.hid (HT.out.upd hu1 (fun _ _ h => h))
    clear hu1
    rcases hv with rfl | ⟨b, rfl⟩
    · unfold nilw
      go_wp2_with fail
      refine (op1_nil L t S ks ix _ _ T1.out).mono ?_
      rintro e w' ⟨rfl, rfl⟩
      unfold nilw
      go_wp2_with fail
      refine (C.out _ U1.out).mono ?_
      rintro e w' hp
      obtain rfl : e = .returned (.tuple #[]) := hp.1
      have HP := Lib.hid hp
      clear hp C
      go_wp2
      go_end0
      exact HP.out
    · go_wp2_with fail
      refine (C.out _ U1.out).mono ?_
      rintro e w' hp
      obtain rfl : e = .returned (.tuple #[]) := hp.1
      have HP := Lib.hid hp
      clear hp C
      go_wp2
      go_end0
      exact HP.out

/-- RawSet under any key that the guards let in. -/
def KeyOk : Key → Prop
  | .str _ => True
  | .num b => (FloatKind.f64.format.order b b == some .eq) = true ∧ ∀ k, Fl.akey b = some k → k ≤ 65536
theorem l_set_key (L : Option Addr) (t : Tbs) (mt : Value) (S : St) (ks : List Value) (ix : List MapEntry) (k : Key) (v : Value) (isNil : Bool) (w : World) (hv : Val v isNil) (hk : KeyOk k) (hkl : ks.length ≤ 1048576) (hl : S.arr.length ≤ 65536) (h : Tab w t mt S ks ix) :
    Calls Tryz.prog 59 #[.pointer L, .pointer (some ⟨t.T, 0, none⟩), kval k, v] w (SetKey t mt S ks k v w) := by
  cases k with
  | str s => exact (l_set_str L t mt S ks ix s v isNil w hv hkl h).mono (fun _ _ hp => hp.key hv)
  | num b => exact l_set_num L t mt S ks ix b v isNil w hv hk.1 hk.2 hkl hl h

set_option maxHeartbeats 800000 in
theorem set_fkey (L : Option Addr) (t : Tbs) (S : St) (ks : List Value) (ix : List MapEntry) (k : Key) (v : Value) (isNil : Bool) (w : World) (hx : Val v isNil) (hkl : ks.length ≤ 1048576) (hk : KeyOk k) (hl : S.arr.length ≤ 65536) (hv : NV (holds S k)) (h : Tab w t nilw S ks ix) :
    Calls Tryz.prog 68 #[.pointer L, tabv t.T, kval k, v] w (SetKey t nilw S ks k v w) := by
  have C := Lib.hid (show ∀ wx, Upd (fun _ => False) w wx → Calls Tryz.prog 59 #[.pointer L, .pointer (some ⟨t.T, 0, none⟩), kval k, v] wx (SetKey t nilw S ks k v w) from fun wx hux =>
    (l_set_key L t nilw S ks ix k v isNil wx hx hk hkl hl (h.upd hux (fun _ _ h => h))).mono (fun _ _ hp => hp.from hux))
  have H := Lib.hid h
  obtain ⟨hv1, hv0⟩ : ∃ hv1, holds S k = hv1 := ⟨_, rfl⟩
  rw [hv0] at hv
  have HV := Lib.hid hv0
  clear h hv0 hx hkl hk hl
  unfold tabv
  go_enter Tryz.func68, Tryz.ntmps68
  go_wp2
  go_loopw [8, 9] (fun cv iv wr => cv = .iface 32 (.pointer (some ⟨t.T, 0, none⟩)) ∧ iv = .int .i64 0 ∧ Upd (fun _ => False) w wr) (fun _ _ _ => 0)
  case atStart => exact ⟨rfl, rfl, Upd.refl _ _⟩
  case round =>
    obtain ⟨rfl, rfl, hu⟩ := hrel
    have HU := Lib.hid hu
    have HT := Lib.hid (H.out.upd hu (fun _ _ h => h))
    clear hu
    go_wp2_with fail
    refine (rget_key t nilw S ks ix k _ HT.out).mono ?_
    rintro e w1 ⟨rfl, hu1⟩
    rw [HV.out]
    have U1 := Lib.hid (HU.out.trans hu1)
    have T1 := Lib.hid (HT.out.upd hu1 (fun _ _ h => h))
    clear hu1
    rcases hv with rfl | ⟨b, rfl⟩
    · unfold nilw
      go_wp2_with fail
      refine (op1_nil L t S ks ix _ _ T1.out).mono ?_
      rintro e w' ⟨rfl, rfl⟩
      unfold nilw
      go_wp2_with fail
      refine (C.out _ U1.out).mono ?_
      rintro e w' hp
      obtain rfl : e = .returned (.tuple #[]) := hp.1
      have HP := Lib.hid hp
      clear hp C
      go_wp2
      go_end0
      exact HP.out
    · go_wp2_with fail
      refine (C.out _ U1.out).mono ?_
      rintro e w' hp
      obtain rfl : e = .returned (.tuple #[]) := hp.1
      have HP := Lib.hid hp
      clear hp C
      go_wp2
      go_end0
      exact HP.out

set_option maxHeartbeats 400000 in
theorem get_field (L : Option Addr) (t : Tbs) (S : St) (ks : List Value) (ix : List MapEntry) (s : ByteArray) (w : World) (hv : NV (holds S (.str s))) (h : Tab w t nilw S ks ix) :
    Calls Tryz.prog 34 #[.pointer L, tabv t.T, .string s] w fun e w' => e = .returned (holds S (.str s)) ∧ Upd (fun _ => False) w w' := by
  have C := Lib.hid (get_fstr L t S ks ix s w hv h)
  clear hv h
  go_enter Tryz.func34, Tryz.ntmps34
  go_wp2_with fail
  refine C.out.mono ?_
  rintro e w' hp
  obtain ⟨rfl, hu⟩ := hp
  have HP := Lib.hid hu
  clear hu C
  go_wp2
  go_ret
  exact ⟨rfl, HP.out⟩

set_option maxHeartbeats 400000 in
theorem get_table (L : Option Addr) (t : Tbs) (S : St) (ks : List Value) (ix : List MapEntry) (k : Key) (w : World) (hv : NV (holds S k)) (h : Tab w t nilw S ks ix) :
    Calls Tryz.prog 41 #[.pointer L, tabv t.T, kval k] w fun e w' => e = .returned (holds S k) ∧ Upd (fun _ => False) w w' := by
  have C := Lib.hid (get_fkey L t S ks ix k w hv h)
  clear hv h
  go_enter Tryz.func41, Tryz.ntmps41
  go_wp2_with fail
  refine C.out.mono ?_
  rintro e w' hp
  obtain ⟨rfl, hu⟩ := hp
  have HP := Lib.hid hu
  clear hu C
  go_wp2
  go_ret
  exact ⟨rfl, HP.out⟩

set_option maxHeartbeats 400000 in
theorem set_field (L : Option Addr) (t : Tbs) (S : St) (ks : List Value) (ix : List MapEntry) (s : ByteArray) (v : Value) (isNil : Bool) (w : World) (hx : Val v isNil) (hkl : ks.length ≤ 1048576) (hv : NV (holds S (.str s))) (h : Tab w t nilw S ks ix) :
    Calls Tryz.prog 32 #[.pointer L, tabv t.T, .string s, v] w (SetKey t nilw S ks (.str s) v w) := by
  have C := Lib.hid (set_fstr L t S ks ix s v isNil w hx hkl hv h)
  clear hx hkl hv h
  go_enter Tryz.func32, Tryz.ntmps32
  go_wp2_with fail
  refine C.out.mono ?_
  rintro e w' hp
  obtain rfl : e = .returned (.tuple #[]) := hp.1
  have HP := Lib.hid hp
  clear hp C
  go_wp2
  go_end0
  exact HP.out

set_option maxHeartbeats 400000 in
theorem set_table (L : Option Addr) (t : Tbs) (S : St) (ks : List Value) (ix : List MapEntry) (k : Key) (v : Value) (isNil : Bool) (w : World) (hx : Val v isNil) (hkl : ks.length ≤ 1048576) (hk : KeyOk k) (hl : S.arr.length ≤ 65536) (hv : NV (holds S k)) (h : Tab w t nilw S ks ix) :
    Calls Tryz.prog 39 #[.pointer L, tabv t.T, kval k, v] w (SetKey t nilw S ks k v w) := by
  have C := Lib.hid (set_fkey L t S ks ix k v isNil w hx hkl hk hl hv h)
  clear hx hkl hk hl hv h
  go_enter Tryz.func39, Tryz.ntmps39
  go_wp2_with fail
  refine C.out.mono ?_
  rintro e w' hp
  obtain rfl : e = .returned (.tuple #[]) := hp.1
  have HP := Lib.hid hp
  clear hp C
  go_wp2
  go_end0
  exact HP.out

end Go.Proofs.YtlmadbgpllokfaaGreatFmt
