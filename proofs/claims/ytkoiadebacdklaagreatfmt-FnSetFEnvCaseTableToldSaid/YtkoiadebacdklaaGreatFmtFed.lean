/- FnSetFEnvCaseTable: walked, for each kind of object. -/
import Derived.Test.YtkoiadebacdklaaGreatFmtTat
import Derived.Test.YtkoiadebacdklaaGreatFmtFec
namespace Go.Proofs.YtkoiadebacdklaaGreatFmt
open Go.RowKit Go.Mapy Go.Tbl
set_option maxRecDepth 100000

def strv (s : ByteArray) : Value := .iface 110 (.string s)
def udm (E M : Nat) : List Value := [.nilIface, .pointer (some ⟨E, 0, none⟩), tabv M]
def lsz : List Value := [.pointer none, .pointer none, .pointer none, .nilFunc, .bool false, .int .i64 0, .int .i64 0, .int .i64 0, .int .i64 0, .bool false, .bool false, .bool false, .int .i32 0, .pointer none, .nilIface, .pointer none, .pointer none, .bool false, .pointer none, .bool false, .nilFunc]
def kk : ByteArray := ⟨#[107]⟩

set_option maxHeartbeats 400000 in
theorem str_type (s : ByteArray) (w : World) : Calls Tryz.prog 242 #[.string s] w fun e w' => e = .returned (.int .i64 3) ∧ w = w' := by
  go_enter Tryz.func242, Tryz.ntmps242
  go_wp2
  go_ret
  exact ⟨rfl, rfl⟩

set_option maxHeartbeats 400000 in
theorem str_string (s : ByteArray) (w : World) : Calls Tryz.prog 241 #[.string s] w fun e w' => e = .returned (.string s) ∧ w = w' := by
  go_enter Tryz.func241, Tryz.ntmps241
  go_wp2
  go_ret
  exact ⟨rfl, rfl⟩

set_option maxHeartbeats 400000 in
theorem reads_string (s : ByteArray) (w : World) : Calls Tryz.prog 54 #[strv s, .string s] w fun e w' => e = .returned (.bool true) ∧ w = w' := by
  unfold strv
  go_enter Tryz.func54, Tryz.ntmps54
  go_wp2_with fail
  refine (str_type s _).mono ?_
  rintro e w' ⟨rfl, rfl⟩
  go_wp2_with fail
  refine (str_string s _).mono ?_
  rintro e w' ⟨rfl, rfl⟩
  go_wp2
  go_ret
  exact ⟨rfl, rfl⟩

set_option maxHeartbeats 400000 in
theorem guard_case (kd : Int) (s : ByteArray) (x : Nat) (w : World) : Calls Tryz.prog 52 #[.int .i64 kd, .string s, .float .f64 x] w (SomeBool w) := by
  by_cases h : s.size ≤ 1048576
  · go_enter Tryz.func52, Tryz.ntmps52
    go_wp2
    go_ret
    exact ⟨_, rfl, rfl⟩
  · go_enter Tryz.func52, Tryz.ntmps52
    go_wp2
    go_ret
    exact ⟨_, rfl, rfl⟩

theorem held_str (S : St) (str' : List MapEntry) (s : ByteArray) (v : Value) (hp : Put seq IsStr (.string s) v false S.str str') : holds { S with str := str' } (.str s) = v := by
  have h := Tbl.look_str 111 110 nilw (S := S) (isNil := false) (fun h => by cases h) hp (.str s)
  rw [show keq (.str s) (.str s) = true by simp only [keq, ba_beq], if_pos rfl] at h
  exact h

theorem Tab.T_lt {w : World} {t : Tbs} {mt : Value} {S : St} {ks : List Value} {ix : List MapEntry} (h : Tab w t mt S ks ix) : t.T < w.heap.size := h.tb.lt
theorem new_fp {w w' : World} {T A m : Nat} (h : NewT w w' T A m) : ∀ c, Fp ⟨T, .slice (some ⟨A, 0, none⟩) 0 32, none, m, .slice none 0 0, none⟩ c → w.heap.size ≤ c := by
  intro c hc
  have ho := h.old
  rcases hc with rfl | hc | hc | rfl | hc | hc
  · exact ho.1
  · have := Option.some.inj hc
    have this : A = c := this
    omega
  · cases hc
  · exact ho.2.2.1
  · cases hc
  · cases hc

set_option maxHeartbeats 3200000 in
theorem case_0 (kd : Int) (s : ByteArray) (x : Nat) (w : World) (hs : s.size ≤ 1048576) (hk : kq kd 9 = 0) : Calls Tryz.prog 10 #[.int .i64 kd, .string s, .float .f64 x] w (Good w) := by
  go_enter Tryz.func10, Tryz.ntmps10
  go_wp2_with fail
  refine (guard_case kd s x _).mono ?_
  rintro e w' ⟨b, rfl, rfl⟩
  cases b with
  | false =>
    go_wp2
    go_ret
    exact ⟨rfl, Below.refl _ _⟩
  | true =>
    go_wp2_with fail
    refine (kind_of9 kd _).mono ?_
    rintro e w' ⟨rfl, rfl⟩
    rw [hk]
    go_wp2_with fail
    obtain ⟨La, hLa⟩ : ∃ La, w.heap.size = La := ⟨_, rfl⟩
    have hbl0 := Blk.new w lsz 46
    have U0 := Lib.hid ((Upd.refl (fun _ => False) w).alloc (.cells lsz.toArray 46))
    rw [hLa] at hbl0
    rw [hLa]
    refine (new_table _ _).mono ?_
    rintro e w1 ⟨C, A1, m1, rfl, hn1⟩
    have U1 := Lib.hid (U0.out.trans hn1.upd)
    have hbl := hn1.blk hbl0
    have BC := Lib.hid hn1.tb
    have l2 := hbl.at (o := 2) rfl
    have lf := hbl.free 2
    have hLw : w.heap.size ≤ La := Nat.le_of_eq hLa
    have BL0 := Lib.hid hbl
    clear hn1 hbl hbl0 U0 hLa
    go_wp2_with fail
    have U2 := Lib.hid (U1.out.setCell ⟨La, 2, none⟩ (.pointer (some ⟨C, 0, none⟩)) (.inr hLw))
    have BL2 := Lib.hid (BL0.out.set 2 (.pointer (some ⟨C, 0, none⟩)))
    refine (new_table _ _).mono ?_
    rintro e w2 ⟨T0, A0, m0, rfl, hn2⟩
    have U2 := Lib.hid (U2.out.trans hn2.upd)
    have BL := Lib.hid (hn2.blk BL2.out)
    have TO := Lib.hid (Tab.new hn2)
    have hfo := new_fp hn2
    simp only [World.size_setCell] at hfo
    have FO := Lib.hid hfo
    have hw1 := BL0.out.lt
    have hw1s := U1.out.size
    clear hn2 hfo BL2 BL0 l2 lf
    go_wp2_with fail
    refine (new_table _ _).mono ?_
    rintro e w3 ⟨Tn, An, mn, rfl, hn3⟩
    have U3 := Lib.hid (U2.out.trans hn3.upd)
    have BL := Lib.hid (hn3.blk BL.out)
    have TO3 := Lib.hid (TO.out.upd hn3.upd (fun _ _ h => h))
    have TN := Lib.hid (Tab.new hn3)
    have hfn := new_fp hn3
    have FN := Lib.hid (show ∀ c, Fp ⟨Tn, .slice (some ⟨An, 0, none⟩) 0 32, none, mn, .slice none 0 0, none⟩ c → ¬ Fp ⟨T0, .slice (some ⟨A0, 0, none⟩) 0 32, none, m0, .slice none 0 0, none⟩ c from fun c h1 h2 => by have := TO.out.lt h2; have := hfn c h1; omega)
    clear hn3 hfn TO U2
    go_wp2_with fail
    refine (new_table _ _).mono ?_
    rintro e w4 ⟨Tm, Am, mm, rfl, hn4⟩
    have U4 := Lib.hid (U3.out.trans hn4.upd)
    have BL := Lib.hid (hn4.blk BL.out)
    have TO := Lib.hid (TO3.out.upd hn4.upd (fun _ _ h => h))
    have TN := Lib.hid (TN.out.upd hn4.upd (fun _ _ h => h))
    clear hn4 TO3 U3
    go_wp2_with fail
    refine (l_set_str _ _ nilw _ [] [] kk (strv s) false _ (.inr ⟨rfl, _, _, rfl, by decide, rfl⟩) (by simp) TO.out).mono ?_
    rintro e w5 ⟨rfl, t2, str2, ks2, ix2, hT2, hu5, hfp5, htab5, hput5, _, _, _⟩
    have HO := Lib.hid (held_str ⟨[], [], []⟩ str2 kk (strv s) hput5)
    have hTo := FO.out T0 (.inl rfl)
    have UT := Lib.hid (U4.out.trans_new hu5 (fun c h => by have := FO.out c h; omega))
    have BL := Lib.hid (hu5.blk BL.out (fun h => by have := FO.out _ h; omega))
    have TN := Lib.hid (TN.out.upd hu5 (fun c h => FN.out c h))
    have TO := Lib.hid htab5
    have HT := Lib.hid (show t2.T = T0 from hT2)
    clear hu5 hfp5 htab5 hput5 hT2 U4 FN FO
    have hbo := Blk.new w5 (fne false T0) 59
    have UO := Lib.hid ((Upd.refl (fun _ => False) w5).alloc (.cells (fne false T0).toArray 59))
    have BO := Lib.hid hbo
    have hLO : La < w5.heap.size := BL.out.lt
    clear hbo
    go_wp2_with fail
    refine (set_fn _ w5.heap.size Tn _ _ _ (by exact BO.out) rfl).mono ?_
    rintro e w6 ⟨rfl, hu6, hb6⟩
    have hu56 : Upd (fun _ => False) w5 w6 := UO.out.trans_new hu6 (fun c h => by have h : c = w5.heap.size := h; omega)
    have UT := Lib.hid (UT.out.trans hu56)
    have BL := Lib.hid (hu56.blk BL.out (fun h => h))
    have TO := Lib.hid (TO.out.upd hu56 (fun _ _ h => h))
    have TN := Lib.hid (TN.out.upd hu56 (fun _ _ h => h))
    have hb7 : Blk w6 w5.heap.size (fne false Tn) 59 := hb6
    have c1 := hb7.at (o := 1) rfl
    clear hu6 hb6 hu56 hb7 UO BO
    go_wp2_with fail
    have cg := l_get_str (some ⟨La, 0, none⟩) t2 nilw _ ks2 ix2 kk _ TO.out
    rw [HT.out] at cg
    refine cg.mono ?_
    rintro e w' ⟨rfl, rfl⟩
    rw [HO.out]
    unfold strv
    go_wp2_with fail
    refine (reads_string s _).mono ?_
    rintro e w' ⟨rfl, rfl⟩
    go_wp2_with fail
    refine (l_get_str _ _ nilw _ [] [] kk _ TN.out).mono ?_
    rintro e w' ⟨rfl, rfl⟩
    rw [show holds ⟨[], [], []⟩ (.str kk) = nilw from look_empty _ _ _ _]
    unfold nilw
    go_wp2_with fail
    refine (reads_nil _).mono ?_
    rintro e w' ⟨rfl, rfl⟩
    have l2 := BL.out.at (o := 2) rfl
    go_wp2
    go_ret
    exact ⟨rfl, UT.out.below (Nat.le_refl _) (fun _ h => h.elim)⟩

set_option maxHeartbeats 3200000 in
theorem case_1 (kd : Int) (s : ByteArray) (x : Nat) (w : World) (hs : s.size ≤ 1048576) (hk : kq kd 9 = 1) : Calls Tryz.prog 10 #[.int .i64 kd, .string s, .float .f64 x] w (Good w) := by
  go_enter Tryz.func10, Tryz.ntmps10
  go_wp2_with fail
  refine (guard_case kd s x _).mono ?_
  rintro e w' ⟨b, rfl, rfl⟩
  cases b with
  | false =>
    go_wp2
    go_ret
    exact ⟨rfl, Below.refl _ _⟩
  | true =>
    go_wp2_with fail
    refine (kind_of9 kd _).mono ?_
    rintro e w' ⟨rfl, rfl⟩
    rw [hk]
    go_wp2_with fail
    obtain ⟨La, hLa⟩ : ∃ La, w.heap.size = La := ⟨_, rfl⟩
    have hbl0 := Blk.new w lsz 46
    have U0 := Lib.hid ((Upd.refl (fun _ => False) w).alloc (.cells lsz.toArray 46))
    rw [hLa] at hbl0
    rw [hLa]
    refine (new_table _ _).mono ?_
    rintro e w1 ⟨C, A1, m1, rfl, hn1⟩
    have U1 := Lib.hid (U0.out.trans hn1.upd)
    have hbl := hn1.blk hbl0
    have BC := Lib.hid hn1.tb
    have l2 := hbl.at (o := 2) rfl
    have lf := hbl.free 2
    have hLw : w.heap.size ≤ La := Nat.le_of_eq hLa
    have BL0 := Lib.hid hbl
    clear hn1 hbl hbl0 U0 hLa
    go_wp2_with fail
    have U2 := Lib.hid (U1.out.setCell ⟨La, 2, none⟩ (.pointer (some ⟨C, 0, none⟩)) (.inr hLw))
    have BL2 := Lib.hid (BL0.out.set 2 (.pointer (some ⟨C, 0, none⟩)))
    refine (new_table _ _).mono ?_
    rintro e w2 ⟨T0, A0, m0, rfl, hn2⟩
    have U2 := Lib.hid (U2.out.trans hn2.upd)
    have BL := Lib.hid (hn2.blk BL2.out)
    have TO := Lib.hid (Tab.new hn2)
    have hfo := new_fp hn2
    simp only [World.size_setCell] at hfo
    have FO := Lib.hid hfo
    have hw1 := BL0.out.lt
    have hw1s := U1.out.size
    clear hn2 hfo BL2 BL0 l2 lf
    go_wp2_with fail
    refine (new_table _ _).mono ?_
    rintro e w3 ⟨Tn, An, mn, rfl, hn3⟩
    have U3 := Lib.hid (U2.out.trans hn3.upd)
    have BL := Lib.hid (hn3.blk BL.out)
    have TO3 := Lib.hid (TO.out.upd hn3.upd (fun _ _ h => h))
    have TN := Lib.hid (Tab.new hn3)
    have hfn := new_fp hn3
    have FN := Lib.hid (show ∀ c, Fp ⟨Tn, .slice (some ⟨An, 0, none⟩) 0 32, none, mn, .slice none 0 0, none⟩ c → ¬ Fp ⟨T0, .slice (some ⟨A0, 0, none⟩) 0 32, none, m0, .slice none 0 0, none⟩ c from fun c h1 h2 => by have := TO.out.lt h2; have := hfn c h1; omega)
    clear hn3 hfn TO U2
    go_wp2_with fail
    refine (new_table _ _).mono ?_
    rintro e w4 ⟨Tm, Am, mm, rfl, hn4⟩
    have U4 := Lib.hid (U3.out.trans hn4.upd)
    have BL := Lib.hid (hn4.blk BL.out)
    have TO := Lib.hid (TO3.out.upd hn4.upd (fun _ _ h => h))
    have TN := Lib.hid (TN.out.upd hn4.upd (fun _ _ h => h))
    clear hn4 TO3 U3
    go_wp2_with fail
    refine (l_set_str _ _ nilw _ [] [] kk (strv s) false _ (.inr ⟨rfl, _, _, rfl, by decide, rfl⟩) (by simp) TO.out).mono ?_
    rintro e w5 ⟨rfl, t2, str2, ks2, ix2, hT2, hu5, hfp5, htab5, hput5, _, _, _⟩
    have HO := Lib.hid (held_str ⟨[], [], []⟩ str2 kk (strv s) hput5)
    have hTo := FO.out T0 (.inl rfl)
    have UT := Lib.hid (U4.out.trans_new hu5 (fun c h => by have := FO.out c h; omega))
    have BL := Lib.hid (hu5.blk BL.out (fun h => by have := FO.out _ h; omega))
    have TN := Lib.hid (TN.out.upd hu5 (fun c h => FN.out c h))
    have TO := Lib.hid htab5
    have HT := Lib.hid (show t2.T = T0 from hT2)
    clear hu5 hfp5 htab5 hput5 hT2 U4 FN FO
    have hbo := Blk.new w5 (udm T0 Tm) 103
    have UO := Lib.hid ((Upd.refl (fun _ => False) w5).alloc (.cells (udm T0 Tm).toArray 103))
    have BO := Lib.hid hbo
    have hLO : La < w5.heap.size := BL.out.lt
    clear hbo
    go_wp2_with fail
    refine (set_ud _ w5.heap.size Tn _ _ _ (by exact BO.out) rfl).mono ?_
    rintro e w6 ⟨rfl, hu6, hb6⟩
    have hu56 : Upd (fun _ => False) w5 w6 := UO.out.trans_new hu6 (fun c h => by have h : c = w5.heap.size := h; omega)
    have UT := Lib.hid (UT.out.trans hu56)
    have BL := Lib.hid (hu56.blk BL.out (fun h => h))
    have TO := Lib.hid (TO.out.upd hu56 (fun _ _ h => h))
    have TN := Lib.hid (TN.out.upd hu56 (fun _ _ h => h))
    have hb7 : Blk w6 w5.heap.size (udm Tn Tm) 103 := hb6
    have c1 := hb7.at (o := 1) rfl
    have c2 := hb7.at (o := 2) rfl
    unfold tabv at c2
    clear hu6 hb6 hu56 hb7 UO BO
    go_wp2_with fail
    have cg := l_get_str (some ⟨La, 0, none⟩) t2 nilw _ ks2 ix2 kk _ TO.out
    rw [HT.out] at cg
    refine cg.mono ?_
    rintro e w' ⟨rfl, rfl⟩
    rw [HO.out]
    unfold strv
    go_wp2_with fail
    refine (reads_string s _).mono ?_
    rintro e w' ⟨rfl, rfl⟩
    go_wp2_with fail
    refine (l_get_str _ _ nilw _ [] [] kk _ TN.out).mono ?_
    rintro e w' ⟨rfl, rfl⟩
    rw [show holds ⟨[], [], []⟩ (.str kk) = nilw from look_empty _ _ _ _]
    unfold nilw
    go_wp2_with fail
    refine (reads_nil _).mono ?_
    rintro e w' ⟨rfl, rfl⟩
    have l2 := BL.out.at (o := 2) rfl
    go_wp2
    go_ret
    exact ⟨rfl, UT.out.below (Nat.le_refl _) (fun _ h => h.elim)⟩

set_option maxHeartbeats 3200000 in
theorem case_2 (kd : Int) (s : ByteArray) (x : Nat) (w : World) (hs : s.size ≤ 1048576) (hk : kq kd 9 = 2) : Calls Tryz.prog 10 #[.int .i64 kd, .string s, .float .f64 x] w (Good w) := by
  go_enter Tryz.func10, Tryz.ntmps10
  go_wp2_with fail
  refine (guard_case kd s x _).mono ?_
  rintro e w' ⟨b, rfl, rfl⟩
  cases b with
  | false =>
    go_wp2
    go_ret
    exact ⟨rfl, Below.refl _ _⟩
  | true =>
    go_wp2_with fail
    refine (kind_of9 kd _).mono ?_
    rintro e w' ⟨rfl, rfl⟩
    rw [hk]
    go_wp2_with fail
    obtain ⟨La, hLa⟩ : ∃ La, w.heap.size = La := ⟨_, rfl⟩
    have hbl0 := Blk.new w lsz 46
    have U0 := Lib.hid ((Upd.refl (fun _ => False) w).alloc (.cells lsz.toArray 46))
    rw [hLa] at hbl0
    rw [hLa]
    refine (new_table _ _).mono ?_
    rintro e w1 ⟨C, A1, m1, rfl, hn1⟩
    have U1 := Lib.hid (U0.out.trans hn1.upd)
    have hbl := hn1.blk hbl0
    have BC := Lib.hid hn1.tb
    have l2 := hbl.at (o := 2) rfl
    have lf := hbl.free 2
    have hLw : w.heap.size ≤ La := Nat.le_of_eq hLa
    have BL0 := Lib.hid hbl
    clear hn1 hbl hbl0 U0 hLa
    go_wp2_with fail
    have U2 := Lib.hid (U1.out.setCell ⟨La, 2, none⟩ (.pointer (some ⟨C, 0, none⟩)) (.inr hLw))
    have BL2 := Lib.hid (BL0.out.set 2 (.pointer (some ⟨C, 0, none⟩)))
    refine (new_table _ _).mono ?_
    rintro e w2 ⟨T0, A0, m0, rfl, hn2⟩
    have U2 := Lib.hid (U2.out.trans hn2.upd)
    have BL := Lib.hid (hn2.blk BL2.out)
    have TO := Lib.hid (Tab.new hn2)
    have hfo := new_fp hn2
    simp only [World.size_setCell] at hfo
    have FO := Lib.hid hfo
    have hw1 := BL0.out.lt
    have hw1s := U1.out.size
    clear hn2 hfo BL2 BL0 l2 lf
    go_wp2_with fail
    refine (new_table _ _).mono ?_
    rintro e w3 ⟨Tn, An, mn, rfl, hn3⟩
    have U3 := Lib.hid (U2.out.trans hn3.upd)
    have BL := Lib.hid (hn3.blk BL.out)
    have TO3 := Lib.hid (TO.out.upd hn3.upd (fun _ _ h => h))
    have TN := Lib.hid (Tab.new hn3)
    have hfn := new_fp hn3
    have FN := Lib.hid (show ∀ c, Fp ⟨Tn, .slice (some ⟨An, 0, none⟩) 0 32, none, mn, .slice none 0 0, none⟩ c → ¬ Fp ⟨T0, .slice (some ⟨A0, 0, none⟩) 0 32, none, m0, .slice none 0 0, none⟩ c from fun c h1 h2 => by have := TO.out.lt h2; have := hfn c h1; omega)
    clear hn3 hfn TO U2
    go_wp2_with fail
    refine (new_table _ _).mono ?_
    rintro e w4 ⟨Tm, Am, mm, rfl, hn4⟩
    have U4 := Lib.hid (U3.out.trans hn4.upd)
    have BL := Lib.hid (hn4.blk BL.out)
    have TO := Lib.hid (TO3.out.upd hn4.upd (fun _ _ h => h))
    have TN := Lib.hid (TN.out.upd hn4.upd (fun _ _ h => h))
    clear hn4 TO3 U3
    go_wp2_with fail
    refine (l_set_str _ _ nilw _ [] [] kk (strv s) false _ (.inr ⟨rfl, _, _, rfl, by decide, rfl⟩) (by simp) TO.out).mono ?_
    rintro e w5 ⟨rfl, t2, str2, ks2, ix2, hT2, hu5, hfp5, htab5, hput5, _, _, _⟩
    have HO := Lib.hid (held_str ⟨[], [], []⟩ str2 kk (strv s) hput5)
    have hTo := FO.out T0 (.inl rfl)
    have UT := Lib.hid (U4.out.trans_new hu5 (fun c h => by have := FO.out c h; omega))
    have BL := Lib.hid (hu5.blk BL.out (fun h => by have := FO.out _ h; omega))
    have TN := Lib.hid (TN.out.upd hu5 (fun c h => FN.out c h))
    have TO := Lib.hid htab5
    have HT := Lib.hid (show t2.T = T0 from hT2)
    clear hu5 hfp5 htab5 hput5 hT2 U4 FN FO
    have hbo := Blk.new w5 (the T0) 46
    have UO := Lib.hid ((Upd.refl (fun _ => False) w5).alloc (.cells (the T0).toArray 46))
    have BO := Lib.hid hbo
    have hLO : La < w5.heap.size := BL.out.lt
    clear hbo
    go_wp2_with fail
    refine (set_th _ w5.heap.size Tn _ _ _ (by exact BO.out) rfl).mono ?_
    rintro e w6 ⟨rfl, hu6, hb6⟩
    have hu56 : Upd (fun _ => False) w5 w6 := UO.out.trans_new hu6 (fun c h => by have h : c = w5.heap.size := h; omega)
    have UT := Lib.hid (UT.out.trans hu56)
    have BL := Lib.hid (hu56.blk BL.out (fun h => h))
    have TO := Lib.hid (TO.out.upd hu56 (fun _ _ h => h))
    have TN := Lib.hid (TN.out.upd hu56 (fun _ _ h => h))
    have hb7 : Blk w6 w5.heap.size (the Tn) 46 := hb6
    have c1 := hb7.at (o := 2) rfl
    clear hu6 hb6 hu56 hb7 UO BO
    go_wp2_with fail
    have cg := l_get_str (some ⟨La, 0, none⟩) t2 nilw _ ks2 ix2 kk _ TO.out
    rw [HT.out] at cg
    refine cg.mono ?_
    rintro e w' ⟨rfl, rfl⟩
    rw [HO.out]
    unfold strv
    go_wp2_with fail
    refine (reads_string s _).mono ?_
    rintro e w' ⟨rfl, rfl⟩
    go_wp2_with fail
    refine (l_get_str _ _ nilw _ [] [] kk _ TN.out).mono ?_
    rintro e w' ⟨rfl, rfl⟩
    rw [show holds ⟨[], [], []⟩ (.str kk) = nilw from look_empty _ _ _ _]
    unfold nilw
    go_wp2_with fail
    refine (reads_nil _).mono ?_
    rintro e w' ⟨rfl, rfl⟩
    have l2 := BL.out.at (o := 2) rfl
    go_wp2
    go_ret
    exact ⟨rfl, UT.out.below (Nat.le_refl _) (fun _ h => h.elim)⟩

set_option maxHeartbeats 3200000 in
theorem case_3 (kd : Int) (s : ByteArray) (x : Nat) (w : World) (hs : s.size ≤ 1048576) (hk : kq kd 9 = 3) : Calls Tryz.prog 10 #[.int .i64 kd, .string s, .float .f64 x] w (Good w) := by
  go_enter Tryz.func10, Tryz.ntmps10
  go_wp2_with fail
  refine (guard_case kd s x _).mono ?_
  rintro e w' ⟨b, rfl, rfl⟩
  cases b with
  | false =>
    go_wp2
    go_ret
    exact ⟨rfl, Below.refl _ _⟩
  | true =>
    go_wp2_with fail
    refine (kind_of9 kd _).mono ?_
    rintro e w' ⟨rfl, rfl⟩
    rw [hk]
    go_wp2_with fail
    obtain ⟨La, hLa⟩ : ∃ La, w.heap.size = La := ⟨_, rfl⟩
    have hbl0 := Blk.new w lsz 46
    have U0 := Lib.hid ((Upd.refl (fun _ => False) w).alloc (.cells lsz.toArray 46))
    rw [hLa] at hbl0
    rw [hLa]
    refine (new_table _ _).mono ?_
    rintro e w1 ⟨C, A1, m1, rfl, hn1⟩
    have U1 := Lib.hid (U0.out.trans hn1.upd)
    have hbl := hn1.blk hbl0
    have BC := Lib.hid hn1.tb
    have l2 := hbl.at (o := 2) rfl
    have lf := hbl.free 2
    have hLw : w.heap.size ≤ La := Nat.le_of_eq hLa
    have BL0 := Lib.hid hbl
    clear hn1 hbl hbl0 U0 hLa
    go_wp2_with fail
    have U2 := Lib.hid (U1.out.setCell ⟨La, 2, none⟩ (.pointer (some ⟨C, 0, none⟩)) (.inr hLw))
    have BL2 := Lib.hid (BL0.out.set 2 (.pointer (some ⟨C, 0, none⟩)))
    refine (new_table _ _).mono ?_
    rintro e w2 ⟨T0, A0, m0, rfl, hn2⟩
    have U2 := Lib.hid (U2.out.trans hn2.upd)
    have BL := Lib.hid (hn2.blk BL2.out)
    have TO := Lib.hid (Tab.new hn2)
    have hfo := new_fp hn2
    simp only [World.size_setCell] at hfo
    have FO := Lib.hid hfo
    have hw1 := BL0.out.lt
    have hw1s := U1.out.size
    clear hn2 hfo BL2 BL0 l2 lf
    go_wp2_with fail
    refine (new_table _ _).mono ?_
    rintro e w3 ⟨Tn, An, mn, rfl, hn3⟩
    have U3 := Lib.hid (U2.out.trans hn3.upd)
    have BL := Lib.hid (hn3.blk BL.out)
    have TO3 := Lib.hid (TO.out.upd hn3.upd (fun _ _ h => h))
    have TN := Lib.hid (Tab.new hn3)
    have hfn := new_fp hn3
    have FN := Lib.hid (show ∀ c, Fp ⟨Tn, .slice (some ⟨An, 0, none⟩) 0 32, none, mn, .slice none 0 0, none⟩ c → ¬ Fp ⟨T0, .slice (some ⟨A0, 0, none⟩) 0 32, none, m0, .slice none 0 0, none⟩ c from fun c h1 h2 => by have := TO.out.lt h2; have := hfn c h1; omega)
    clear hn3 hfn TO U2
    go_wp2_with fail
    refine (new_table _ _).mono ?_
    rintro e w4 ⟨Tm, Am, mm, rfl, hn4⟩
    have U4 := Lib.hid (U3.out.trans hn4.upd)
    have BL := Lib.hid (hn4.blk BL.out)
    have TO := Lib.hid (TO3.out.upd hn4.upd (fun _ _ h => h))
    have TN := Lib.hid (TN.out.upd hn4.upd (fun _ _ h => h))
    clear hn4 TO3 U3
    go_wp2_with fail
    refine (l_set_str _ _ nilw _ [] [] kk (strv s) false _ (.inr ⟨rfl, _, _, rfl, by decide, rfl⟩) (by simp) TO.out).mono ?_
    rintro e w5 ⟨rfl, t2, str2, ks2, ix2, hT2, hu5, hfp5, htab5, hput5, _, _, _⟩
    have HO := Lib.hid (held_str ⟨[], [], []⟩ str2 kk (strv s) hput5)
    have hTo := FO.out T0 (.inl rfl)
    have UT := Lib.hid (U4.out.trans_new hu5 (fun c h => by have := FO.out c h; omega))
    have BL := Lib.hid (hu5.blk BL.out (fun h => by have := FO.out _ h; omega))
    have TN := Lib.hid (TN.out.upd hu5 (fun c h => FN.out c h))
    have TO := Lib.hid htab5
    have HT := Lib.hid (show t2.T = T0 from hT2)
    clear hu5 hfp5 htab5 hput5 hT2 U4 FN FO
    have hbo := Blk.new w5 (fne true T0) 59
    have UO := Lib.hid ((Upd.refl (fun _ => False) w5).alloc (.cells (fne true T0).toArray 59))
    have BO := Lib.hid hbo
    have hLO : La < w5.heap.size := BL.out.lt
    clear hbo
    go_wp2_with fail
    refine (set_fn _ w5.heap.size Tn _ _ _ (by exact BO.out) rfl).mono ?_
    rintro e w6 ⟨rfl, hu6, hb6⟩
    have hu56 : Upd (fun _ => False) w5 w6 := UO.out.trans_new hu6 (fun c h => by have h : c = w5.heap.size := h; omega)
    have UT := Lib.hid (UT.out.trans hu56)
    have BL := Lib.hid (hu56.blk BL.out (fun h => h))
    have TO := Lib.hid (TO.out.upd hu56 (fun _ _ h => h))
    have TN := Lib.hid (TN.out.upd hu56 (fun _ _ h => h))
    have hb7 : Blk w6 w5.heap.size (fne true Tn) 59 := hb6
    have c1 := hb7.at (o := 1) rfl
    clear hu6 hb6 hu56 hb7 UO BO
    go_wp2_with fail
    have cg := l_get_str (some ⟨La, 0, none⟩) t2 nilw _ ks2 ix2 kk _ TO.out
    rw [HT.out] at cg
    refine cg.mono ?_
    rintro e w' ⟨rfl, rfl⟩
    rw [HO.out]
    unfold strv
    go_wp2_with fail
    refine (reads_string s _).mono ?_
    rintro e w' ⟨rfl, rfl⟩
    go_wp2_with fail
    refine (l_get_str _ _ nilw _ [] [] kk _ TN.out).mono ?_
    rintro e w' ⟨rfl, rfl⟩
    rw [show holds ⟨[], [], []⟩ (.str kk) = nilw from look_empty _ _ _ _]
    unfold nilw
    go_wp2_with fail
    refine (reads_nil _).mono ?_
    rintro e w' ⟨rfl, rfl⟩
    have l2 := BL.out.at (o := 2) rfl
    go_wp2
    go_ret
    exact ⟨rfl, UT.out.below (Nat.le_refl _) (fun _ h => h.elim)⟩

set_option maxHeartbeats 3200000 in
theorem case_4 (kd : Int) (s : ByteArray) (x : Nat) (w : World) (hs : s.size ≤ 1048576) (hk : kq kd 9 = 4) : Calls Tryz.prog 10 #[.int .i64 kd, .string s, .float .f64 x] w (Good w) := by
  go_enter Tryz.func10, Tryz.ntmps10
  go_wp2_with fail
  refine (guard_case kd s x _).mono ?_
  rintro e w' ⟨b, rfl, rfl⟩
  cases b with
  | false =>
    go_wp2
    go_ret
    exact ⟨rfl, Below.refl _ _⟩
  | true =>
    go_wp2_with fail
    refine (kind_of9 kd _).mono ?_
    rintro e w' ⟨rfl, rfl⟩
    rw [hk]
    go_wp2_with fail
    obtain ⟨La, hLa⟩ : ∃ La, w.heap.size = La := ⟨_, rfl⟩
    have hbl0 := Blk.new w lsz 46
    have U0 := Lib.hid ((Upd.refl (fun _ => False) w).alloc (.cells lsz.toArray 46))
    rw [hLa] at hbl0
    rw [hLa]
    refine (new_table _ _).mono ?_
    rintro e w1 ⟨C, A1, m1, rfl, hn1⟩
    have U1 := Lib.hid (U0.out.trans hn1.upd)
    have hbl := hn1.blk hbl0
    have BC := Lib.hid hn1.tb
    have l2 := hbl.at (o := 2) rfl
    have lf := hbl.free 2
    have hLw : w.heap.size ≤ La := Nat.le_of_eq hLa
    have BL0 := Lib.hid hbl
    clear hn1 hbl hbl0 U0 hLa
    go_wp2_with fail
    have U2 := Lib.hid (U1.out.setCell ⟨La, 2, none⟩ (.pointer (some ⟨C, 0, none⟩)) (.inr hLw))
    have BL2 := Lib.hid (BL0.out.set 2 (.pointer (some ⟨C, 0, none⟩)))
    refine (new_table _ _).mono ?_
    rintro e w2 ⟨T0, A0, m0, rfl, hn2⟩
    have U2 := Lib.hid (U2.out.trans hn2.upd)
    have BL := Lib.hid (hn2.blk BL2.out)
    have TO := Lib.hid (Tab.new hn2)
    have hfo := new_fp hn2
    simp only [World.size_setCell] at hfo
    have FO := Lib.hid hfo
    have hw1 := BL0.out.lt
    have hw1s := U1.out.size
    clear hn2 hfo BL2 BL0 l2 lf
    go_wp2_with fail
    refine (new_table _ _).mono ?_
    rintro e w3 ⟨Tn, An, mn, rfl, hn3⟩
    have U3 := Lib.hid (U2.out.trans hn3.upd)
    have BL := Lib.hid (hn3.blk BL.out)
    have TO3 := Lib.hid (TO.out.upd hn3.upd (fun _ _ h => h))
    have TN := Lib.hid (Tab.new hn3)
    have hfn := new_fp hn3
    have FN := Lib.hid (show ∀ c, Fp ⟨Tn, .slice (some ⟨An, 0, none⟩) 0 32, none, mn, .slice none 0 0, none⟩ c → ¬ Fp ⟨T0, .slice (some ⟨A0, 0, none⟩) 0 32, none, m0, .slice none 0 0, none⟩ c from fun c h1 h2 => by have := TO.out.lt h2; have := hfn c h1; omega)
    clear hn3 hfn TO U2
    go_wp2_with fail
    refine (new_table _ _).mono ?_
    rintro e w4 ⟨Tm, Am, mm, rfl, hn4⟩
    have U4 := Lib.hid (U3.out.trans hn4.upd)
    have BL := Lib.hid (hn4.blk BL.out)
    have TO := Lib.hid (TO3.out.upd hn4.upd (fun _ _ h => h))
    have TN := Lib.hid (TN.out.upd hn4.upd (fun _ _ h => h))
    clear hn4 TO3 U3
    go_wp2_with fail
    refine (l_set_str _ _ nilw _ [] [] kk (strv s) false _ (.inr ⟨rfl, _, _, rfl, by decide, rfl⟩) (by simp) TO.out).mono ?_
    rintro e w5 ⟨rfl, t2, str2, ks2, ix2, hT2, hu5, hfp5, htab5, hput5, _, _, _⟩
    have HO := Lib.hid (held_str ⟨[], [], []⟩ str2 kk (strv s) hput5)
    have hTo := FO.out T0 (.inl rfl)
    have UT := Lib.hid (U4.out.trans_new hu5 (fun c h => by have := FO.out c h; omega))
    have BL := Lib.hid (hu5.blk BL.out (fun h => by have := FO.out _ h; omega))
    have TN := Lib.hid (TN.out.upd hu5 (fun c h => FN.out c h))
    have TO := Lib.hid htab5
    have HT := Lib.hid (show t2.T = T0 from hT2)
    clear hu5 hfp5 htab5 hput5 hT2 U4 FN FO
    go_wp2_with fail
    refine (set_str _ s Tn _).mono ?_
    rintro e w' ⟨rfl, rfl⟩
    go_wp2_with fail
    have cg := l_get_str (some ⟨La, 0, none⟩) t2 nilw _ ks2 ix2 kk _ TO.out
    rw [HT.out] at cg
    refine cg.mono ?_
    rintro e w' ⟨rfl, rfl⟩
    rw [HO.out]
    unfold strv
    go_wp2_with fail
    refine (reads_string s _).mono ?_
    rintro e w' ⟨rfl, rfl⟩
    go_wp2_with fail
    refine (l_get_str _ _ nilw _ [] [] kk _ TN.out).mono ?_
    rintro e w' ⟨rfl, rfl⟩
    rw [show holds ⟨[], [], []⟩ (.str kk) = nilw from look_empty _ _ _ _]
    unfold nilw
    go_wp2_with fail
    refine (reads_nil _).mono ?_
    rintro e w' ⟨rfl, rfl⟩
    have l2 := BL.out.at (o := 2) rfl
    go_wp2
    go_ret
    exact ⟨rfl, UT.out.below (Nat.le_refl _) (fun _ h => h.elim)⟩

set_option maxHeartbeats 3200000 in
theorem case_5 (kd : Int) (s : ByteArray) (x : Nat) (w : World) (hs : s.size ≤ 1048576) (hk : kq kd 9 = 5) : Calls Tryz.prog 10 #[.int .i64 kd, .string s, .float .f64 x] w (Good w) := by
  go_enter Tryz.func10, Tryz.ntmps10
  go_wp2_with fail
  refine (guard_case kd s x _).mono ?_
  rintro e w' ⟨b, rfl, rfl⟩
  cases b with
  | false =>
    go_wp2
    go_ret
    exact ⟨rfl, Below.refl _ _⟩
  | true =>
    go_wp2_with fail
    refine (kind_of9 kd _).mono ?_
    rintro e w' ⟨rfl, rfl⟩
    rw [hk]
    go_wp2_with fail
    obtain ⟨La, hLa⟩ : ∃ La, w.heap.size = La := ⟨_, rfl⟩
    have hbl0 := Blk.new w lsz 46
    have U0 := Lib.hid ((Upd.refl (fun _ => False) w).alloc (.cells lsz.toArray 46))
    rw [hLa] at hbl0
    rw [hLa]
    refine (new_table _ _).mono ?_
    rintro e w1 ⟨C, A1, m1, rfl, hn1⟩
    have U1 := Lib.hid (U0.out.trans hn1.upd)
    have hbl := hn1.blk hbl0
    have BC := Lib.hid hn1.tb
    have l2 := hbl.at (o := 2) rfl
    have lf := hbl.free 2
    have hLw : w.heap.size ≤ La := Nat.le_of_eq hLa
    have BL0 := Lib.hid hbl
    clear hn1 hbl hbl0 U0 hLa
    go_wp2_with fail
    have U2 := Lib.hid (U1.out.setCell ⟨La, 2, none⟩ (.pointer (some ⟨C, 0, none⟩)) (.inr hLw))
    have BL2 := Lib.hid (BL0.out.set 2 (.pointer (some ⟨C, 0, none⟩)))
    refine (new_table _ _).mono ?_
    rintro e w2 ⟨T0, A0, m0, rfl, hn2⟩
    have U2 := Lib.hid (U2.out.trans hn2.upd)
    have BL := Lib.hid (hn2.blk BL2.out)
    have TO := Lib.hid (Tab.new hn2)
    have hfo := new_fp hn2
    simp only [World.size_setCell] at hfo
    have FO := Lib.hid hfo
    have hw1 := BL0.out.lt
    have hw1s := U1.out.size
    clear hn2 hfo BL2 BL0 l2 lf
    go_wp2_with fail
    refine (new_table _ _).mono ?_
    rintro e w3 ⟨Tn, An, mn, rfl, hn3⟩
    have U3 := Lib.hid (U2.out.trans hn3.upd)
    have BL := Lib.hid (hn3.blk BL.out)
    have TO3 := Lib.hid (TO.out.upd hn3.upd (fun _ _ h => h))
    have TN := Lib.hid (Tab.new hn3)
    have hfn := new_fp hn3
    have FN := Lib.hid (show ∀ c, Fp ⟨Tn, .slice (some ⟨An, 0, none⟩) 0 32, none, mn, .slice none 0 0, none⟩ c → ¬ Fp ⟨T0, .slice (some ⟨A0, 0, none⟩) 0 32, none, m0, .slice none 0 0, none⟩ c from fun c h1 h2 => by have := TO.out.lt h2; have := hfn c h1; omega)
    clear hn3 hfn TO U2
    go_wp2_with fail
    refine (new_table _ _).mono ?_
    rintro e w4 ⟨Tm, Am, mm, rfl, hn4⟩
    have U4 := Lib.hid (U3.out.trans hn4.upd)
    have BL := Lib.hid (hn4.blk BL.out)
    have TO := Lib.hid (TO3.out.upd hn4.upd (fun _ _ h => h))
    have TN := Lib.hid (TN.out.upd hn4.upd (fun _ _ h => h))
    clear hn4 TO3 U3
    go_wp2_with fail
    refine (l_set_str _ _ nilw _ [] [] kk (strv s) false _ (.inr ⟨rfl, _, _, rfl, by decide, rfl⟩) (by simp) TO.out).mono ?_
    rintro e w5 ⟨rfl, t2, str2, ks2, ix2, hT2, hu5, hfp5, htab5, hput5, _, _, _⟩
    have HO := Lib.hid (held_str ⟨[], [], []⟩ str2 kk (strv s) hput5)
    have hTo := FO.out T0 (.inl rfl)
    have UT := Lib.hid (U4.out.trans_new hu5 (fun c h => by have := FO.out c h; omega))
    have BL := Lib.hid (hu5.blk BL.out (fun h => by have := FO.out _ h; omega))
    have TN := Lib.hid (TN.out.upd hu5 (fun c h => FN.out c h))
    have TO := Lib.hid htab5
    have HT := Lib.hid (show t2.T = T0 from hT2)
    clear hu5 hfp5 htab5 hput5 hT2 U4 FN FO
    go_wp2_with fail
    refine (set_num _ x Tn _).mono ?_
    rintro e w' ⟨rfl, rfl⟩
    go_wp2_with fail
    have cg := l_get_str (some ⟨La, 0, none⟩) t2 nilw _ ks2 ix2 kk _ TO.out
    rw [HT.out] at cg
    refine cg.mono ?_
    rintro e w' ⟨rfl, rfl⟩
    rw [HO.out]
    unfold strv
    go_wp2_with fail
    refine (reads_string s _).mono ?_
    rintro e w' ⟨rfl, rfl⟩
    go_wp2_with fail
    refine (l_get_str _ _ nilw _ [] [] kk _ TN.out).mono ?_
    rintro e w' ⟨rfl, rfl⟩
    rw [show holds ⟨[], [], []⟩ (.str kk) = nilw from look_empty _ _ _ _]
    unfold nilw
    go_wp2_with fail
    refine (reads_nil _).mono ?_
    rintro e w' ⟨rfl, rfl⟩
    have l2 := BL.out.at (o := 2) rfl
    go_wp2
    go_ret
    exact ⟨rfl, UT.out.below (Nat.le_refl _) (fun _ h => h.elim)⟩

set_option maxHeartbeats 3200000 in
theorem case_6 (kd : Int) (s : ByteArray) (x : Nat) (w : World) (hs : s.size ≤ 1048576) (hk : kq kd 9 = 6) : Calls Tryz.prog 10 #[.int .i64 kd, .string s, .float .f64 x] w (Good w) := by
  go_enter Tryz.func10, Tryz.ntmps10
  go_wp2_with fail
  refine (guard_case kd s x _).mono ?_
  rintro e w' ⟨b, rfl, rfl⟩
  cases b with
  | false =>
    go_wp2
    go_ret
    exact ⟨rfl, Below.refl _ _⟩
  | true =>
    go_wp2_with fail
    refine (kind_of9 kd _).mono ?_
    rintro e w' ⟨rfl, rfl⟩
    rw [hk]
    go_wp2_with fail
    obtain ⟨La, hLa⟩ : ∃ La, w.heap.size = La := ⟨_, rfl⟩
    have hbl0 := Blk.new w lsz 46
    have U0 := Lib.hid ((Upd.refl (fun _ => False) w).alloc (.cells lsz.toArray 46))
    rw [hLa] at hbl0
    rw [hLa]
    refine (new_table _ _).mono ?_
    rintro e w1 ⟨C, A1, m1, rfl, hn1⟩
    have U1 := Lib.hid (U0.out.trans hn1.upd)
    have hbl := hn1.blk hbl0
    have BC := Lib.hid hn1.tb
    have l2 := hbl.at (o := 2) rfl
    have lf := hbl.free 2
    have hLw : w.heap.size ≤ La := Nat.le_of_eq hLa
    have BL0 := Lib.hid hbl
    clear hn1 hbl hbl0 U0 hLa
    go_wp2_with fail
    have U2 := Lib.hid (U1.out.setCell ⟨La, 2, none⟩ (.pointer (some ⟨C, 0, none⟩)) (.inr hLw))
    have BL2 := Lib.hid (BL0.out.set 2 (.pointer (some ⟨C, 0, none⟩)))
    refine (new_table _ _).mono ?_
    rintro e w2 ⟨T0, A0, m0, rfl, hn2⟩
    have U2 := Lib.hid (U2.out.trans hn2.upd)
    have BL := Lib.hid (hn2.blk BL2.out)
    have TO := Lib.hid (Tab.new hn2)
    have hfo := new_fp hn2
    simp only [World.size_setCell] at hfo
    have FO := Lib.hid hfo
    have hw1 := BL0.out.lt
    have hw1s := U1.out.size
    clear hn2 hfo BL2 BL0 l2 lf
    go_wp2_with fail
    refine (new_table _ _).mono ?_
    rintro e w3 ⟨Tn, An, mn, rfl, hn3⟩
    have U3 := Lib.hid (U2.out.trans hn3.upd)
    have BL := Lib.hid (hn3.blk BL.out)
    have TO3 := Lib.hid (TO.out.upd hn3.upd (fun _ _ h => h))
    have TN := Lib.hid (Tab.new hn3)
    have hfn := new_fp hn3
    have FN := Lib.hid (show ∀ c, Fp ⟨Tn, .slice (some ⟨An, 0, none⟩) 0 32, none, mn, .slice none 0 0, none⟩ c → ¬ Fp ⟨T0, .slice (some ⟨A0, 0, none⟩) 0 32, none, m0, .slice none 0 0, none⟩ c from fun c h1 h2 => by have := TO.out.lt h2; have := hfn c h1; omega)
    clear hn3 hfn TO U2
    go_wp2_with fail
    refine (new_table _ _).mono ?_
    rintro e w4 ⟨Tm, Am, mm, rfl, hn4⟩
    have U4 := Lib.hid (U3.out.trans hn4.upd)
    have BL := Lib.hid (hn4.blk BL.out)
    have TO := Lib.hid (TO3.out.upd hn4.upd (fun _ _ h => h))
    have TN := Lib.hid (TN.out.upd hn4.upd (fun _ _ h => h))
    clear hn4 TO3 U3
    go_wp2_with fail
    refine (l_set_str _ _ nilw _ [] [] kk (strv s) false _ (.inr ⟨rfl, _, _, rfl, by decide, rfl⟩) (by simp) TO.out).mono ?_
    rintro e w5 ⟨rfl, t2, str2, ks2, ix2, hT2, hu5, hfp5, htab5, hput5, _, _, _⟩
    have HO := Lib.hid (held_str ⟨[], [], []⟩ str2 kk (strv s) hput5)
    have hTo := FO.out T0 (.inl rfl)
    have UT := Lib.hid (U4.out.trans_new hu5 (fun c h => by have := FO.out c h; omega))
    have BL := Lib.hid (hu5.blk BL.out (fun h => by have := FO.out _ h; omega))
    have TN := Lib.hid (TN.out.upd hu5 (fun c h => FN.out c h))
    have TO := Lib.hid htab5
    have HT := Lib.hid (show t2.T = T0 from hT2)
    clear hu5 hfp5 htab5 hput5 hT2 U4 FN FO
    go_wp2_with fail
    refine (set_bool _ _ Tn _).mono ?_
    rintro e w' ⟨rfl, rfl⟩
    go_wp2_with fail
    have cg := l_get_str (some ⟨La, 0, none⟩) t2 nilw _ ks2 ix2 kk _ TO.out
    rw [HT.out] at cg
    refine cg.mono ?_
    rintro e w' ⟨rfl, rfl⟩
    rw [HO.out]
    unfold strv
    go_wp2_with fail
    refine (reads_string s _).mono ?_
    rintro e w' ⟨rfl, rfl⟩
    go_wp2_with fail
    refine (l_get_str _ _ nilw _ [] [] kk _ TN.out).mono ?_
    rintro e w' ⟨rfl, rfl⟩
    rw [show holds ⟨[], [], []⟩ (.str kk) = nilw from look_empty _ _ _ _]
    unfold nilw
    go_wp2_with fail
    refine (reads_nil _).mono ?_
    rintro e w' ⟨rfl, rfl⟩
    have l2 := BL.out.at (o := 2) rfl
    go_wp2
    go_ret
    exact ⟨rfl, UT.out.below (Nat.le_refl _) (fun _ h => h.elim)⟩

set_option maxHeartbeats 3200000 in
theorem case_7 (kd : Int) (s : ByteArray) (x : Nat) (w : World) (hs : s.size ≤ 1048576) (hk : kq kd 9 = 7) : Calls Tryz.prog 10 #[.int .i64 kd, .string s, .float .f64 x] w (Good w) := by
  go_enter Tryz.func10, Tryz.ntmps10
  go_wp2_with fail
  refine (guard_case kd s x _).mono ?_
  rintro e w' ⟨b, rfl, rfl⟩
  cases b with
  | false =>
    go_wp2
    go_ret
    exact ⟨rfl, Below.refl _ _⟩
  | true =>
    go_wp2_with fail
    refine (kind_of9 kd _).mono ?_
    rintro e w' ⟨rfl, rfl⟩
    rw [hk]
    go_wp2_with fail
    obtain ⟨La, hLa⟩ : ∃ La, w.heap.size = La := ⟨_, rfl⟩
    have hbl0 := Blk.new w lsz 46
    have U0 := Lib.hid ((Upd.refl (fun _ => False) w).alloc (.cells lsz.toArray 46))
    rw [hLa] at hbl0
    rw [hLa]
    refine (new_table _ _).mono ?_
    rintro e w1 ⟨C, A1, m1, rfl, hn1⟩
    have U1 := Lib.hid (U0.out.trans hn1.upd)
    have hbl := hn1.blk hbl0
    have BC := Lib.hid hn1.tb
    have l2 := hbl.at (o := 2) rfl
    have lf := hbl.free 2
    have hLw : w.heap.size ≤ La := Nat.le_of_eq hLa
    have BL0 := Lib.hid hbl
    clear hn1 hbl hbl0 U0 hLa
    go_wp2_with fail
    have U2 := Lib.hid (U1.out.setCell ⟨La, 2, none⟩ (.pointer (some ⟨C, 0, none⟩)) (.inr hLw))
    have BL2 := Lib.hid (BL0.out.set 2 (.pointer (some ⟨C, 0, none⟩)))
    refine (new_table _ _).mono ?_
    rintro e w2 ⟨T0, A0, m0, rfl, hn2⟩
    have U2 := Lib.hid (U2.out.trans hn2.upd)
    have BL := Lib.hid (hn2.blk BL2.out)
    have TO := Lib.hid (Tab.new hn2)
    have hfo := new_fp hn2
    simp only [World.size_setCell] at hfo
    have FO := Lib.hid hfo
    have hw1 := BL0.out.lt
    have hw1s := U1.out.size
    clear hn2 hfo BL2 BL0 l2 lf
    go_wp2_with fail
    refine (new_table _ _).mono ?_
    rintro e w3 ⟨Tn, An, mn, rfl, hn3⟩
    have U3 := Lib.hid (U2.out.trans hn3.upd)
    have BL := Lib.hid (hn3.blk BL.out)
    have TO3 := Lib.hid (TO.out.upd hn3.upd (fun _ _ h => h))
    have TN := Lib.hid (Tab.new hn3)
    have hfn := new_fp hn3
    have FN := Lib.hid (show ∀ c, Fp ⟨Tn, .slice (some ⟨An, 0, none⟩) 0 32, none, mn, .slice none 0 0, none⟩ c → ¬ Fp ⟨T0, .slice (some ⟨A0, 0, none⟩) 0 32, none, m0, .slice none 0 0, none⟩ c from fun c h1 h2 => by have := TO.out.lt h2; have := hfn c h1; omega)
    clear hn3 hfn TO U2
    go_wp2_with fail
    refine (new_table _ _).mono ?_
    rintro e w4 ⟨Tm, Am, mm, rfl, hn4⟩
    have U4 := Lib.hid (U3.out.trans hn4.upd)
    have BL := Lib.hid (hn4.blk BL.out)
    have TO := Lib.hid (TO3.out.upd hn4.upd (fun _ _ h => h))
    have TN := Lib.hid (TN.out.upd hn4.upd (fun _ _ h => h))
    clear hn4 TO3 U3
    go_wp2_with fail
    refine (l_set_str _ _ nilw _ [] [] kk (strv s) false _ (.inr ⟨rfl, _, _, rfl, by decide, rfl⟩) (by simp) TO.out).mono ?_
    rintro e w5 ⟨rfl, t2, str2, ks2, ix2, hT2, hu5, hfp5, htab5, hput5, _, _, _⟩
    have HO := Lib.hid (held_str ⟨[], [], []⟩ str2 kk (strv s) hput5)
    have hTo := FO.out T0 (.inl rfl)
    have UT := Lib.hid (U4.out.trans_new hu5 (fun c h => by have := FO.out c h; omega))
    have BL := Lib.hid (hu5.blk BL.out (fun h => by have := FO.out _ h; omega))
    have TN := Lib.hid (TN.out.upd hu5 (fun c h => FN.out c h))
    have TO := Lib.hid htab5
    have HT := Lib.hid (show t2.T = T0 from hT2)
    clear hu5 hfp5 htab5 hput5 hT2 U4 FN FO
    go_wp2_with fail
    refine (new_table _ _).mono ?_
    rintro e w6 ⟨Tt, At, mt, rfl, hn6⟩
    have hu56 := hn6.upd
    have BT := Lib.hid hn6.tb
    have hold := hn6.old
    have t0 := hn6.tb.at (o := 0) rfl
    have tf := hn6.tb.free 0
    have hLO : La < w5.heap.size := BL.out.lt
    unfold nilw at t0
    clear hn6
    go_wp2_with fail
    have hu57 : Upd (fun _ => False) w5 (w6.setCell ⟨Tt, 0, none⟩ (tabv T0)) := hu56.setCell ⟨Tt, 0, none⟩ _ (.inr hold.1)
    have UT := Lib.hid (UT.out.trans hu57)
    have BL := Lib.hid (hu57.blk BL.out (fun h => h))
    have TO := Lib.hid (TO.out.upd hu57 (fun _ _ h => h))
    have TN := Lib.hid (TN.out.upd hu57 (fun _ _ h => h))
    have hbt := BT.out.set 0 (tabv T0)
    refine (set_tab _ Tt Tn _).mono ?_
    rintro e w7 ⟨rfl, hw7⟩
    rw [show (w6.setCell ⟨Tt, 0, none⟩ (tabv T0)) = w7 from hw7] at hbt
    have UT := Lib.hid (show Upd (fun _ => False) w w7 by rw [← hw7]; exact UT.out)
    have BL := Lib.hid (show Blk w7 La _ 46 by rw [← hw7]; exact BL.out)
    have TO := Lib.hid (show Tab w7 t2 _ _ _ _ by rw [← hw7]; exact TO.out)
    have TN := Lib.hid (show Tab w7 _ _ _ _ _ by rw [← hw7]; exact TN.out)
    have c0 := hbt.at (o := 0) rfl
    unfold tabv at c0
    clear hu56 hu57 hbt hold t0 tf hw7
    go_wp2_with fail
    have cg := l_get_str (some ⟨La, 0, none⟩) t2 nilw _ ks2 ix2 kk _ TO.out
    rw [HT.out] at cg
    refine cg.mono ?_
    rintro e w' ⟨rfl, rfl⟩
    rw [HO.out]
    unfold strv
    go_wp2_with fail
    refine (reads_string s _).mono ?_
    rintro e w' ⟨rfl, rfl⟩
    go_wp2_with fail
    refine (l_get_str _ _ nilw _ [] [] kk _ TN.out).mono ?_
    rintro e w' ⟨rfl, rfl⟩
    rw [show holds ⟨[], [], []⟩ (.str kk) = nilw from look_empty _ _ _ _]
    unfold nilw
    go_wp2_with fail
    refine (reads_nil _).mono ?_
    rintro e w' ⟨rfl, rfl⟩
    have l2 := BL.out.at (o := 2) rfl
    go_wp2
    go_ret
    exact ⟨rfl, UT.out.below (Nat.le_refl _) (fun _ h => h.elim)⟩

set_option maxHeartbeats 3200000 in
theorem case_8 (kd : Int) (s : ByteArray) (x : Nat) (w : World) (hs : s.size ≤ 1048576) (hk : kq kd 9 = 8) : Calls Tryz.prog 10 #[.int .i64 kd, .string s, .float .f64 x] w (Good w) := by
  go_enter Tryz.func10, Tryz.ntmps10
  go_wp2_with fail
  refine (guard_case kd s x _).mono ?_
  rintro e w' ⟨b, rfl, rfl⟩
  cases b with
  | false =>
    go_wp2
    go_ret
    exact ⟨rfl, Below.refl _ _⟩
  | true =>
    go_wp2_with fail
    refine (kind_of9 kd _).mono ?_
    rintro e w' ⟨rfl, rfl⟩
    rw [hk]
    go_wp2_with fail
    obtain ⟨La, hLa⟩ : ∃ La, w.heap.size = La := ⟨_, rfl⟩
    have hbl0 := Blk.new w lsz 46
    have U0 := Lib.hid ((Upd.refl (fun _ => False) w).alloc (.cells lsz.toArray 46))
    rw [hLa] at hbl0
    rw [hLa]
    refine (new_table _ _).mono ?_
    rintro e w1 ⟨C, A1, m1, rfl, hn1⟩
    have U1 := Lib.hid (U0.out.trans hn1.upd)
    have hbl := hn1.blk hbl0
    have BC := Lib.hid hn1.tb
    have l2 := hbl.at (o := 2) rfl
    have lf := hbl.free 2
    have hLw : w.heap.size ≤ La := Nat.le_of_eq hLa
    have BL0 := Lib.hid hbl
    clear hn1 hbl hbl0 U0 hLa
    go_wp2_with fail
    have U2 := Lib.hid (U1.out.setCell ⟨La, 2, none⟩ (.pointer (some ⟨C, 0, none⟩)) (.inr hLw))
    have BL2 := Lib.hid (BL0.out.set 2 (.pointer (some ⟨C, 0, none⟩)))
    refine (new_table _ _).mono ?_
    rintro e w2 ⟨T0, A0, m0, rfl, hn2⟩
    have U2 := Lib.hid (U2.out.trans hn2.upd)
    have BL := Lib.hid (hn2.blk BL2.out)
    have TO := Lib.hid (Tab.new hn2)
    have hfo := new_fp hn2
    simp only [World.size_setCell] at hfo
    have FO := Lib.hid hfo
    have hw1 := BL0.out.lt
    have hw1s := U1.out.size
    clear hn2 hfo BL2 BL0 l2 lf
    go_wp2_with fail
    refine (new_table _ _).mono ?_
    rintro e w3 ⟨Tn, An, mn, rfl, hn3⟩
    have U3 := Lib.hid (U2.out.trans hn3.upd)
    have BL := Lib.hid (hn3.blk BL.out)
    have TO3 := Lib.hid (TO.out.upd hn3.upd (fun _ _ h => h))
    have TN := Lib.hid (Tab.new hn3)
    have hfn := new_fp hn3
    have FN := Lib.hid (show ∀ c, Fp ⟨Tn, .slice (some ⟨An, 0, none⟩) 0 32, none, mn, .slice none 0 0, none⟩ c → ¬ Fp ⟨T0, .slice (some ⟨A0, 0, none⟩) 0 32, none, m0, .slice none 0 0, none⟩ c from fun c h1 h2 => by have := TO.out.lt h2; have := hfn c h1; omega)
    clear hn3 hfn TO U2
    go_wp2_with fail
    refine (new_table _ _).mono ?_
    rintro e w4 ⟨Tm, Am, mm, rfl, hn4⟩
    have U4 := Lib.hid (U3.out.trans hn4.upd)
    have BL := Lib.hid (hn4.blk BL.out)
    have TO := Lib.hid (TO3.out.upd hn4.upd (fun _ _ h => h))
    have TN := Lib.hid (TN.out.upd hn4.upd (fun _ _ h => h))
    clear hn4 TO3 U3
    go_wp2_with fail
    refine (l_set_str _ _ nilw _ [] [] kk (strv s) false _ (.inr ⟨rfl, _, _, rfl, by decide, rfl⟩) (by simp) TO.out).mono ?_
    rintro e w5 ⟨rfl, t2, str2, ks2, ix2, hT2, hu5, hfp5, htab5, hput5, _, _, _⟩
    have HO := Lib.hid (held_str ⟨[], [], []⟩ str2 kk (strv s) hput5)
    have hTo := FO.out T0 (.inl rfl)
    have UT := Lib.hid (U4.out.trans_new hu5 (fun c h => by have := FO.out c h; omega))
    have BL := Lib.hid (hu5.blk BL.out (fun h => by have := FO.out _ h; omega))
    have TN := Lib.hid (TN.out.upd hu5 (fun c h => FN.out c h))
    have TO := Lib.hid htab5
    have HT := Lib.hid (show t2.T = T0 from hT2)
    clear hu5 hfp5 htab5 hput5 hT2 U4 FN FO
    go_wp2_with fail
    refine (set_nil _ Tn _).mono ?_
    rintro e w' ⟨rfl, rfl⟩
    go_wp2_with fail
    have cg := l_get_str (some ⟨La, 0, none⟩) t2 nilw _ ks2 ix2 kk _ TO.out
    rw [HT.out] at cg
    refine cg.mono ?_
    rintro e w' ⟨rfl, rfl⟩
    rw [HO.out]
    unfold strv
    go_wp2_with fail
    refine (reads_string s _).mono ?_
    rintro e w' ⟨rfl, rfl⟩
    go_wp2_with fail
    refine (l_get_str _ _ nilw _ [] [] kk _ TN.out).mono ?_
    rintro e w' ⟨rfl, rfl⟩
    rw [show holds ⟨[], [], []⟩ (.str kk) = nilw from look_empty _ _ _ _]
    unfold nilw
    go_wp2_with fail
    refine (reads_nil _).mono ?_
    rintro e w' ⟨rfl, rfl⟩
    have l2 := BL.out.at (o := 2) rfl
    go_wp2
    go_ret
    exact ⟨rfl, UT.out.below (Nat.le_refl _) (fun _ h => h.elim)⟩

theorem case_in (kd : Int) (s : ByteArray) (x : Nat) (w : World) (hs : s.size ≤ 1048576) : Calls Tryz.prog 10 #[.int .i64 kd, .string s, .float .f64 x] w (Good w) := by
  have h := kq_lt kd 9 (by omega)
  have h : kq kd 9 = 0 ∨ kq kd 9 = 1 ∨ kq kd 9 = 2 ∨ kq kd 9 = 3 ∨ kq kd 9 = 4 ∨ kq kd 9 = 5 ∨ kq kd 9 = 6 ∨ kq kd 9 = 7 ∨ kq kd 9 = 8 := by omega
  rcases h with h | h | h | h | h | h | h | h | h
  · exact case_0 kd s x w hs h
  · exact case_1 kd s x w hs h
  · exact case_2 kd s x w hs h
  · exact case_3 kd s x w hs h
  · exact case_4 kd s x w hs h
  · exact case_5 kd s x w hs h
  · exact case_6 kd s x w hs h
  · exact case_7 kd s x w hs h
  · exact case_8 kd s x w hs h

set_option maxHeartbeats 400000 in
theorem case_long (kd : Int) (s : ByteArray) (x : Nat) (w : World) (hs : ¬ s.size ≤ 1048576) : Calls Tryz.prog 10 #[.int .i64 kd, .string s, .float .f64 x] w (Good w) := by
  go_enter Tryz.func10, Tryz.ntmps10
  go_wp2_with fail
  refine (guard_case kd s x _).mono ?_
  rintro e w' ⟨b, rfl, rfl⟩
  cases b with
  | false =>
    go_wp2
    go_ret
    exact ⟨rfl, Below.refl _ _⟩
  | true =>
    go_wp2
    go_ret
    exact ⟨rfl, Below.refl _ _⟩
end Go.Proofs.YtkoiadebacdklaaGreatFmt
