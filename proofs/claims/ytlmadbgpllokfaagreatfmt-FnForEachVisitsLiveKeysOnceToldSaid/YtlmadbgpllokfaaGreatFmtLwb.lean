/- The premises of the laws on RawSetInt: walked. -/
import Derived.Test.YtlmadbgpllokfaaGreatFmtLwa
namespace Go.Proofs.YtlmadbgpllokfaaGreatFmt
open Go.RowKit Go.Mapy Go.Tbl
set_option maxRecDepth 100000

/-- Some bool comes back, with what it says. -/
def Says (P : Prop) (w : World) (e : Ending) (w' : World) : Prop := ∃ b, e = .returned (.bool b) ∧ Upd (fun _ => False) w w' ∧ (b = true → P)

def Stored (val : Nat → Nat) (del : Nat → Bool) (n : Nat) : Prop := ∀ m, m < n → del m = false → (FloatKind.f64.format.order (val m) (val m) == some .eq) = true

set_option maxHeartbeats 1600000 in
theorem stored_ok (aV aD : Option Addr) (nV cV nD cD n : Nat) (val : Nat → Nat) (del : Nat → Bool) (w : World) (hV : n ≤ nV) (hD : n ≤ nD) (lV : nV ≤ 4096) (hv : Cells w aV nV fun j => .float .f64 (val j)) (hd : Cells w aD nD fun j => .bool (del j)) :
    Calls Tryz.prog 27 #[.slice aV nV cV, .slice aD nD cD, .int .i64 n] w (Says (Stored val del n) w) := by
  have HV := Lib.hid hv
  have HD := Lib.hid hd
  clear hv hd
  go_enter Tryz.func27, Tryz.ntmps27
  go_wp2
  go_loopw [7] (fun iv wr => ∃ m : Nat, m ≤ n ∧ iv = .int .i64 m ∧ Upd (fun _ => False) w wr ∧ Stored val del m) (fun iv _ => n - (intOf iv).toNat)
  case atStart => exact ⟨0, Nat.zero_le _, rfl, Upd.refl _ _, fun m h => absurd h (by omega)⟩
  case round =>
    obtain ⟨m, hm, rfl, hu, hs⟩ := hrel
    have HU := Lib.hid hu
    have HS := Lib.hid hs
    clear hu hs
    by_cases hlt : m < n
    · obtain ⟨b1, off1, rfl, hc1⟩ := (HV.out.upd HU.out).one (j := m) (by omega)
      obtain ⟨b2, off2, rfl, hc2⟩ := (HD.out.upd HU.out).one (j := m) (by omega)
      have i1 : (0 : Int) ≤ (m : Int) := by omega
      have i2 : (m : Int) < (nV : Int) := by omega
      have i3 : (m : Int) < (nD : Int) := by omega
      cases hdm : del m with
      | true =>
        rw [hdm] at hc2
        go_wp2
        go_quiet (fail)
        go_wp2
        go_roundw
        case rel =>
          refine ⟨m + 1, by omega, by go_num, HU.out.drewN _, fun k hk hd => ?_⟩
          by_cases e : k = m
          · subst e; rw [hdm] at hd; cases hd
          · exact HS.out k (by omega) hd
        case measure => simp [intOf]; omega
      | false =>
        rw [hdm] at hc2
        by_cases hnan : (FloatKind.f64.format.order (val m) (val m) == some .eq) = true
        · have hna : (FloatKind.f64.format.order (val m) (val m) != some .eq) = false := by simpa [bne] using hnan
          go_wp2
          go_quiet (fail)
          go_wp2
          go_roundw
          case rel =>
            refine ⟨m + 1, by omega, by go_num, HU.out.drewN _, fun k hk hd => ?_⟩
            by_cases e : k = m
            · subst e; exact hnan
            · exact HS.out k (by omega) hd
          case measure => simp [intOf]; omega
        · have hna : (FloatKind.f64.format.order (val m) (val m) != some .eq) = true := by simpa [bne] using hnan
          go_wp2
          go_quiet (fail)
          go_wp2
          go_ret
          exact ⟨false, rfl, HU.out.drewN _, fun h => by cases h⟩
    · obtain rfl : m = n := by omega
      go_wp2
      go_ret
      exact ⟨true, rfl, HU.out, fun _ => HS.out⟩

def Keys (key : Nat → Int) (n : Nat) : Prop := ∀ m, m < n → (key m).natAbs ≤ 9007199254740992 ∧ ¬ (65536 < key m ∧ key m < 67108864)

set_option maxHeartbeats 1600000 in
theorem script_ok (aK aV aD : Option Addr) (nK cK nV cV nD cD n : Nat) (key : Nat → Int) (val : Nat → Nat) (del : Nat → Bool) (w : World) (hK : n ≤ nK) (hV : n ≤ nV) (hD : n ≤ nD) (lK : nK ≤ 4096) (lV : nV ≤ 4096)
    (hk : Cells w aK nK fun j => .int .i64 (key j)) (hv : Cells w aV nV fun j => .float .f64 (val j)) (hd : Cells w aD nD fun j => .bool (del j)) :
    Calls Tryz.prog 49 #[.slice aK nK cK, .slice aV nV cV, .slice aD nD cD, .int .i64 n] w (Says (Keys key n ∧ Stored val del n) w) := by
  have HK := Lib.hid hk
  have HV := Lib.hid hv
  have HD := Lib.hid hd
  clear hk hv hd
  go_enter Tryz.func49, Tryz.ntmps49
  go_wp2
  go_loopw [9] (fun iv wr => ∃ m : Nat, m ≤ n ∧ iv = .int .i64 m ∧ Upd (fun _ => False) w wr ∧ Keys key m) (fun iv _ => n - (intOf iv).toNat)
  case atStart => exact ⟨0, Nat.zero_le _, rfl, Upd.refl _ _, fun m h => absurd h (by omega)⟩
  case round =>
    obtain ⟨m, hm, rfl, hu, hs⟩ := hrel
    have HU := Lib.hid hu
    have HS := Lib.hid hs
    clear hu hs
    by_cases hlt : m < n
    · obtain ⟨b1, off1, rfl, hc1⟩ := (HK.out.upd HU.out).one (j := m) (by omega)
      have i1 : (0 : Int) ≤ (m : Int) := by omega
      have i2 : (m : Int) < (nK : Int) := by omega
      by_cases he : (key m).natAbs ≤ 9007199254740992
      · have c1 := exact_int (key m)
        rw [decide_eq_true he] at c1
        by_cases hp : ¬ (65536 < key m ∧ key m < 67108864)
        · have c2 := pad_ok (key m)
          rw [decide_eq_true hp] at c2
          go_wp2_with fail
          refine (c1 _).mono ?_
          rintro e w' ⟨rfl, rfl⟩
          go_wp2_with fail
          refine (c2 _).mono ?_
          rintro e w' ⟨rfl, rfl⟩
          go_wp2
          go_roundw
          case rel =>
            refine ⟨m + 1, by omega, by go_num, HU.out, fun k hk => ?_⟩
            by_cases e : k = m
            · subst e; exact ⟨he, hp⟩
            · exact HS.out k (by omega)
          case measure => simp [intOf]; omega
        · have c2 := pad_ok (key m)
          rw [decide_eq_false hp] at c2
          go_wp2_with fail
          refine (c1 _).mono ?_
          rintro e w' ⟨rfl, rfl⟩
          go_wp2_with fail
          refine (c2 _).mono ?_
          rintro e w' ⟨rfl, rfl⟩
          go_wp2
          go_ret
          exact ⟨false, rfl, HU.out, fun h => by cases h⟩
      · have c1 := exact_int (key m)
        rw [decide_eq_false he] at c1
        go_wp2_with fail
        refine (c1 _).mono ?_
        rintro e w' ⟨rfl, rfl⟩
        go_wp2
        go_ret
        exact ⟨false, rfl, HU.out, fun h => by cases h⟩
    · obtain rfl : m = n := by omega
      go_wp2_with fail
      refine (stored_ok aV aD nV cV nD cD m val del _ hV hD lV (HV.out.upd HU.out) (HD.out.upd HU.out)).mono ?_
      rintro e w' ⟨b, rfl, hu, hb⟩
      have HB := Lib.hid hb
      have HU2 := Lib.hid (HU.out.trans hu)
      clear hu hb
      go_wp2
      go_ret
      exact ⟨b, rfl, HU2.out, fun h => ⟨HS.out, HB.out h⟩⟩

set_option maxHeartbeats 400000 in
theorem new_ls (w : World) : Calls Tryz.prog 31 #[] w fun e w' => ∃ La, e = .returned (.pointer (some ⟨La, 0, none⟩)) ∧ Upd (fun _ => False) w w' := by
  go_enter Tryz.func31, Tryz.ntmps31
  go_wp2
  go_ret
  exact ⟨_, rfl, (Upd.refl _ _).alloc _⟩
end Go.Proofs.YtlmadbgpllokfaaGreatFmt
