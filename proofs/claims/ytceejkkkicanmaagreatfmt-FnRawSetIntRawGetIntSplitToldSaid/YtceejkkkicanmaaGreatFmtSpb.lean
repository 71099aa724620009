/- The premises of the law on RawGetInt beside RawSetInt; a store at any integer: walked. -/
import Derived.Test.YtceejkkkicanmaaGreatFmtSpa
namespace Go.Proofs.YtceejkkkicanmaaGreatFmt
open Go.RowKit Go.Mapy Go.Tbl
set_option maxRecDepth 100000

set_option maxHeartbeats 1600000 in
theorem guard_spl (aK aV aD aP : Option Addr) (nK cK nV cV nD cD nP cP : Nat) (w : World) (h0 : nK ≤ 9223372036854775807) (h1 : nV ≤ 9223372036854775807) (h2 : nD ≤ 9223372036854775807) (h3 : nP ≤ 9223372036854775807) :
    Calls Tryz.prog 7 #[.slice aK nK cK, .slice aV nV cV, .slice aD nD cD, .slice aP nP cP] w (SomeBool w) := by
  by_cases l0 : nK ≤ 1048576
  case neg =>
    go_enter Tryz.func7, Tryz.ntmps7
    go_wp2
    go_ret
    exact ⟨_, rfl, rfl⟩
  by_cases l1 : nV ≤ 1048576
  case neg =>
    go_enter Tryz.func7, Tryz.ntmps7
    go_wp2
    go_ret
    exact ⟨_, rfl, rfl⟩
  by_cases l2 : nD ≤ 1048576
  case neg =>
    go_enter Tryz.func7, Tryz.ntmps7
    go_wp2
    all_goals
      go_ret
      exact ⟨_, rfl, rfl⟩
  by_cases l3 : nP ≤ 1048576
  case neg =>
    go_enter Tryz.func7, Tryz.ntmps7
    go_wp2
    all_goals
      go_ret
      exact ⟨_, rfl, rfl⟩
  go_enter Tryz.func7, Tryz.ntmps7
  go_wp2
  all_goals
    go_ret
    exact ⟨_, rfl, rfl⟩


def Pads (key : Nat → Int) (n : Nat) : Prop := ∀ m, m < n → ¬ (65536 < key m ∧ key m < 67108864)

set_option maxHeartbeats 1600000 in
theorem pad_script (aK aV aD : Option Addr) (nK cK nV cV nD cD n : Nat) (key : Nat → Int) (val : Nat → Nat) (del : Nat → Bool) (w : World) (hK : n ≤ nK) (hV : n ≤ nV) (hD : n ≤ nD) (lK : nK ≤ 4096) (lV : nV ≤ 4096)
    (hk : Cells w aK nK fun j => .int .i64 (key j)) (hv : Cells w aV nV fun j => .float .f64 (val j)) (hd : Cells w aD nD fun j => .bool (del j)) :
    Calls Tryz.prog 9 #[.slice aK nK cK, .slice aV nV cV, .slice aD nD cD, .int .i64 n] w (Says (Pads key n ∧ Stored val del n) w) := by
  have HK := Lib.hid hk
  have HV := Lib.hid hv
  have HD := Lib.hid hd
  clear hk hv hd
  go_enter Tryz.func9, Tryz.ntmps9
  go_wp2
  go_loopw [9] (fun iv wr => ∃ m : Nat, m ≤ n ∧ iv = .int .i64 m ∧ Upd (fun _ => False) w wr ∧ Pads key m) (fun iv _ => n - (intOf iv).toNat)
  case atStart => exact ⟨0, Nat.zero_le _, rfl, Upd.refl _ _, fun m h => absurd h (by omega)⟩
  case round =>
    obtain ⟨m, hm, rfl, hu, hs⟩ := hrel
    have HU := Lib.hid hu
    have HS := Lib.hid hs
    clear hu hs
    by_cases hlt : m < n
    · obtain ⟨b1, off1, rfl, hc1⟩ := (HK.out.upd HU.out).one (j := m) (by omega)
      have i1 : (0 : Int) ≤ (m : Int) := by omega
      have i2 : (m : Int) < (nK : Int) := by omega
      by_cases hp : ¬ (65536 < key m ∧ key m < 67108864)
      · have c2 := pad_ok (key m)
        rw [decide_eq_true hp] at c2
        go_wp2_with fail
        refine (c2 _).mono ?_
        rintro e w' ⟨rfl, rfl⟩
        go_wp2
        go_roundw
        case rel =>
          refine ⟨m + 1, by omega, by go_num, HU.out, fun k hk => ?_⟩
          by_cases e : k = m
          · subst e; exact hp
          · exact HS.out k (by omega)
        case measure => simp [intOf]; omega
      · have c2 := pad_ok (key m)
        rw [decide_eq_false hp] at c2
        go_wp2_with fail
        refine (c2 _).mono ?_
        rintro e w' ⟨rfl, rfl⟩
        go_wp2
        go_ret
        exact ⟨false, rfl, HU.out, fun h => by cases h⟩
    · obtain rfl : m = n := by omega
      go_wp2_with fail
      refine (stored_ok aV aD nV cV nD cD m val del _ hV hD lV (HV.out.upd HU.out) (HD.out.upd HU.out)).mono ?_
      rintro e w' ⟨b, rfl, hu, hb⟩
      have HB := Lib.hid hb
      have HU2 := Lib.hid (HU.out.trans hu)
      clear hu hb
      go_wp2
      go_ret
      exact ⟨b, rfl, HU2.out, fun h => ⟨HS.out, HB.out h⟩⟩

/-- What a store at any integer leaves in the array part. -/
def SetAny (t : Tbs) (mt : Value) (S : St) (ks : List Value) (k : Int) (v : Value) (w : World) (e : Ending) (w' : World) : Prop :=
  e = .returned (.tuple #[]) ∧ ∃ t' S' ks' ix', t'.T = t.T ∧ Upd (Fp t) w w' ∧ (∀ c, Fp t' c → Fp t c ∨ w.heap.size ≤ c) ∧ Tab w' t' mt S' ks' ix' ∧ (∀ i : Nat, i < 67108863 → (S'.arr[i]?).getD nilw = if (i : Int) + 1 = k then v else (S.arr[i]?).getD nilw) ∧ S'.arr.length ≤ max S.arr.length 65536 ∧ ks'.length ≤ ks.length + 1

theorem set_any (t : Tbs) (mt : Value) (S : St) (ks : List Value) (ix : List MapEntry) (key : Int) (v : Value) (isNil : Bool) (w : World) (hv : Val v isNil) (hk : ¬ (65536 < key ∧ key < 67108864)) (hkl : ks.length ≤ 1048576) (hl : S.arr.length ≤ 65536) (h : Tab w t mt S ks ix) :
    Calls Tryz.prog 37 #[.pointer (some ⟨t.T, 0, none⟩), .int .i64 key, v] w (SetAny t mt S ks key v w) := by
  by_cases hin : 1 ≤ key ∧ key < 67108864
  · obtain ⟨i, rfl⟩ : ∃ i : Nat, key = (i : Int) + 1 := ⟨(key - 1).toNat, by omega⟩
    refine (set_int_arr t mt S ks ix i v isNil w hv (by omega) hl h).mono ?_
    rintro e w' ⟨he, t', hT, hu, hf, ht⟩
    refine ⟨he, t', _, ks, ix, hT, hu, hf, ht, fun j _ => ?_, by show (setPad nilw S.arr i v).length ≤ _; rw [setPad_length]; omega, by omega⟩
    show ((setPad nilw S.arr i v)[j]?).getD nilw = _
    rw [setPad_at]
    by_cases e : j = i
    · rw [if_pos e, if_pos (by omega)]
    · rw [if_neg e, if_neg (by omega)]
  · refine (set_int_far t mt S ks ix key v isNil w hv (by omega) hkl (self_any key) h).mono ?_
    rintro e w' ⟨he, t', num', ks', ix', hT, hu, hf, ht, _, _, _, hn⟩
    exact ⟨he, t', _, ks', ix', hT, hu, hf, ht, fun j hj => by rw [if_neg (by omega)], by show S.arr.length ≤ _; omega, hn⟩

set_option maxHeartbeats 400000 in
theorem l_set_any (L : Option Addr) (t : Tbs) (mt : Value) (S : St) (ks : List Value) (ix : List MapEntry) (key : Int) (v : Value) (isNil : Bool) (w : World) (hv : Val v isNil) (hk : ¬ (65536 < key ∧ key < 67108864)) (hkl : ks.length ≤ 1048576) (hl : S.arr.length ≤ 65536) (h : Tab w t mt S ks ix) :
    Calls Tryz.prog 15 #[.pointer L, .pointer (some ⟨t.T, 0, none⟩), .int .i64 key, v] w (SetAny t mt S ks key v w) := by
  have C := Lib.hid (set_any t mt S ks ix key v isNil w hv hk hkl hl h)
  clear hv hk hkl hl h
  go_enter Tryz.func15, Tryz.ntmps15
  go_wp2_with fail
  refine C.out.mono ?_
  rintro e w' ⟨rfl, hp⟩
  have HP := Lib.hid hp
  clear hp C
  go_wp2
  go_end0
  exact ⟨rfl, HP.out⟩

/-- What the array part holds behind the first j stores. -/
def RanA (key : Nat → Int) (val : Nat → Nat) (del : Nat → Bool) (j : Nat) (S : St) : Prop := ∀ i : Nat, i < 67108863 → (S.arr[i]?).getD nilw = Last.run (fun a b : Int => decide (a = b)) (fun _ => nilw) key (vv val del) j ((i : Int) + 1)
theorem ranA_zero (key : Nat → Int) (val : Nat → Nat) (del : Nat → Bool) : RanA key val del 0 ⟨[], [], []⟩ := fun _ _ => rfl
theorem RanA.next {key : Nat → Int} {val : Nat → Nat} {del : Nat → Bool} {j : Nat} {S S' : St} (h : RanA key val del j S) (hs : ∀ i : Nat, i < 67108863 → (S'.arr[i]?).getD nilw = if (i : Int) + 1 = key j then vv val del j else (S.arr[i]?).getD nilw) : RanA key val del (j + 1) S' := fun i hi => by
  rw [hs i hi, h i hi]
  show _ = Last.upd _ _ _ _ _
  unfold Last.upd
  by_cases e : (i : Int) + 1 = key j
  · rw [if_pos e, if_pos (decide_eq_true e)]
  · rw [if_neg e, if_neg (by simpa using e)]
theorem RanA.read {key : Nat → Int} {val : Nat → Nat} {del : Nat → Bool} {n : Nat} {S : St} (h : RanA key val del n S) (p : Int) (h1 : 1 ≤ p) (h2 : p < 67108864) : got S p = match Last.last (fun a b => decide (a = b)) key p n with | some j => vv val del j | none => nilw := by
  unfold got
  rw [if_pos ⟨h1, h2⟩, h _ (by omega), Last.run_last, show (((p - 1).toNat : Int) + 1) = p by omega]
  cases Last.last (fun a b => decide (a = b)) key p n <;> rfl
end Go.Proofs.YtceejkkkicanmaaGreatFmt
