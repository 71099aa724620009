/- Scripts over strings and numbers: small functions walked. -/
import Derived.Test.YtlmadbgpllokfaaGreatFmtFsb
namespace Go.Proofs.YtlmadbgpllokfaaGreatFmt
open Go.RowKit Go.Mapy Go.Tbl
set_option maxRecDepth 100000

/-- The key that a flag, a number and a text name. -/
def kof (s : Bool) (n : Nat) (t : ByteArray) : Key := if s then .str t else .num n

set_option maxHeartbeats 400000 in
theorem min_two (a b : Nat) (w : World) : Calls Tryz.prog 37 #[.int .i64 a, .int .i64 b] w fun e w' => e = .returned (.int .i64 ((min a b : Nat) : Int)) ∧ w = w' := by
  go_enter Tryz.func37, Tryz.ntmps37
  go_wp2
  all_goals (go_ret; first | (rw [show min a b = a by omega]; exact ⟨rfl, rfl⟩) | (rw [show min a b = b by omega]; exact ⟨rfl, rfl⟩))

set_option maxHeartbeats 800000 in
theorem num_key_ok (x : Nat) : ∃ b : Bool, (∀ w, Calls Tryz.prog 67 #[.float .f64 x] w fun e w' => e = .returned (.bool b) ∧ w = w') ∧ (b = true → KeyOk (.num x)) := by
  by_cases hnan : (FloatKind.f64.format.order x x == some .eq) = true
  · have hna : (FloatKind.f64.format.order x x != some .eq) = false := by simpa [bne] using hnan
    cases g1 : (FloatKind.f64.format.order x 4679240012837945344 == some .gt) with
    | false =>
      refine ⟨true, fun w => ?_, fun _ => ⟨hnan, fun k hk => ?_⟩⟩
      · clear hnan
        go_enter Tryz.func67, Tryz.ntmps67
        go_wp2
        go_ret
        exact ⟨rfl, rfl⟩
      · rcases Nat.lt_or_ge 65536 k with h | h
        · have := Fl.akey_gt hk h
          rw [Fl.near_65536] at this
          rw [show FloatKind.f64.format = Ieee.double from rfl, this] at g1
          cases g1
        · exact h
    | true =>
      cases g2 : (FloatKind.f64.format.order x 4724276009111650304 == some .lt) with
      | false =>
        refine ⟨true, fun w => ?_, fun _ => ⟨hnan, fun k hk => ?_⟩⟩
        · clear hnan
          go_enter Tryz.func67, Tryz.ntmps67
          go_wp2
          go_ret
          exact ⟨rfl, rfl⟩
        · have := Fl.akey_lt hk
          rw [Fl.near_67108864] at this
          rw [show FloatKind.f64.format = Ieee.double from rfl, this] at g2
          cases g2
      | true =>
        obtain ⟨z, hz⟩ := Fl.between_val (b := x) (by rw [Fl.near_65536]; exact beq_iff_eq.1 g1) (by rw [Fl.near_67108864]; exact beq_iff_eq.1 g2)
        have hcv : ∀ w, (convert 26 2 (.float .f64 x)).run Tryz.prog w = .ok (.int .i64 z) w := fun w => run_convert_float_int _ _ _ _ _ _ _ (by rw [Tryz.underlying26]; rfl) Tryz.underlying2 hz
        have hci := run_i2f 2 26 Tryz.underlying2 Tryz.underlying26 z
        cases g3 : (FloatKind.f64.format.order (FloatKind.f64.nearest z) x != some .eq) with
        | false =>
          refine ⟨false, fun w => ?_, fun h => by cases h⟩
          clear hz hnan
          go_enter Tryz.func67, Tryz.ntmps67
          go_wp2
          go_ret
          exact ⟨rfl, rfl⟩
        | true =>
          refine ⟨true, fun w => ?_, fun _ => ⟨hnan, fun k hk => ?_⟩⟩
          · clear hz hnan
            go_enter Tryz.func67, Tryz.ntmps67
            go_wp2
            go_ret
            exact ⟨rfl, rfl⟩
          · have h1 := Fl.key_val hk
            rw [hz] at h1
            have h2 := Fl.eq_symm (Fl.akey_self hk)
            rw [← Option.some.inj h1] at h2
            rw [show FloatKind.f64.format = Ieee.double from rfl, h2] at g3
            simp at g3
  · refine ⟨false, fun w => ?_, fun h => by cases h⟩
    have hna : (FloatKind.f64.format.order x x != some .eq) = true := by simpa [bne] using hnan
    clear hnan
    go_enter Tryz.func67, Tryz.ntmps67
    go_wp2
    go_ret
    exact ⟨rfl, rfl⟩

set_option maxHeartbeats 800000 in
theorem key_eq (s1 : Bool) (n1 : Nat) (t1 : ByteArray) (s2 : Bool) (n2 : Nat) (t2 : ByteArray) (w : World) : Calls Tryz.prog 40 #[.bool s1, .float .f64 n1, .string t1, .bool s2, .float .f64 n2, .string t2] w fun e w' => e = .returned (.bool (keq (kof s1 n1 t1) (kof s2 n2 t2))) ∧ w = w' := by
  cases s1 with
  | true =>
    cases s2 with
    | true =>
      have KE := Lib.hid (show keq (kof true n1 t1) (kof true n2 t2) = (t1.toList == t2.toList) by exact (list_beq t1 t2).symm)
      go_enter Tryz.func40, Tryz.ntmps40
      go_wp2
      go_ret
      exact ⟨by rw [KE.out]; rfl, rfl⟩
    | false =>
      have KE := Lib.hid (show keq (kof true n1 t1) (kof false n2 t2) = false by rfl)
      go_enter Tryz.func40, Tryz.ntmps40
      go_wp2
      go_ret
      exact ⟨by rw [KE.out]; rfl, rfl⟩
  | false =>
    cases s2 with
    | true =>
      have KE := Lib.hid (show keq (kof false n1 t1) (kof true n2 t2) = false by rfl)
      go_enter Tryz.func40, Tryz.ntmps40
      go_wp2
      go_ret
      exact ⟨by rw [KE.out]; rfl, rfl⟩
    | false =>
      have KE := Lib.hid (show keq (kof false n1 t1) (kof false n2 t2) = (FloatKind.f64.format.order n1 n2 == some .eq) by rfl)
      go_enter Tryz.func40, Tryz.ntmps40
      go_wp2
      go_ret
      exact ⟨by rw [KE.out]; rfl, rfl⟩

def KeysOk (s : Nat → Bool) (x : Nat → Nat) (t : Nat → ByteArray) (n : Nat) : Prop := ∀ m, m < n → KeyOk (kof (s m) (x m) (t m))

set_option maxHeartbeats 1600000 in
theorem num_keys_ok (a1 a2 : Option Addr) (n1 c1 n2 c2 n : Nat) (s : Nat → Bool) (x : Nat → Nat) (t : Nat → ByteArray) (w : World) (l1 : n ≤ n1) (l2 : n ≤ n2) (k1 : n1 ≤ 4096) (_k2 : n2 ≤ 4096) (h1 : Cells w a1 n1 fun j => .bool (s j)) (h2 : Cells w a2 n2 fun j => .float .f64 (x j)) :
    Calls Tryz.prog 38 #[.slice a1 n1 c1, .slice a2 n2 c2, .int .i64 n] w (Says (KeysOk s x t n) w) := by
  have H1 := Lib.hid h1
  have H2 := Lib.hid h2
  clear h1 h2
  go_enter Tryz.func38, Tryz.ntmps38
  go_wp2
  go_loopw [7] (fun iv wr => ∃ m : Nat, m ≤ n ∧ iv = .int .i64 m ∧ Upd (fun _ => False) w wr ∧ KeysOk s x t m) (fun iv _ => n - (intOf iv).toNat)
  case atStart => exact ⟨0, Nat.zero_le _, rfl, Upd.refl _ _, fun m h => absurd h (by omega)⟩
  case round =>
    obtain ⟨m, hm, rfl, hu, hs⟩ := hrel
    have HU := Lib.hid hu
    have HS := Lib.hid hs
    clear hu hs
    by_cases hlt : m < n
    · obtain ⟨b1, off1, rfl, hc1⟩ := (H1.out.upd HU.out).one (j := m) (by omega)
      obtain ⟨b2, off2, rfl, hc2⟩ := (H2.out.upd HU.out).one (j := m) (by omega)
      have i1 : (0 : Int) ≤ (m : Int) := by omega
      have i2 : (m : Int) < (n1 : Int) := by omega
      have i3 : (m : Int) < (n2 : Int) := by omega
      cases hsm : s m with
      | true =>
        rw [hsm] at hc1
        have KO := Lib.hid (show KeyOk (kof (s m) (x m) (t m)) by rw [hsm]; exact trivial)
        clear hsm
        go_wp2
        go_roundw
        case rel =>
          refine ⟨m + 1, by omega, by go_num, HU.out, fun k hk => ?_⟩
          by_cases e : k = m
          · subst e; exact KO.out
          · exact HS.out k (by omega)
        case measure => simp [intOf]; omega
      | false =>
        rw [hsm] at hc1
        obtain ⟨b, hcb, hkb⟩ := num_key_ok (x m)
        have HCB := Lib.hid hcb
        clear hcb
        cases b with
        | true =>
          have KO := Lib.hid (show KeyOk (kof (s m) (x m) (t m)) by rw [hsm]; exact hkb rfl)
          clear hsm hkb
          go_wp2_with fail
          refine (HCB.out _).mono ?_
          rintro e w' ⟨rfl, rfl⟩
          go_wp2
          go_roundw
          case rel =>
            refine ⟨m + 1, by omega, by go_num, HU.out, fun k hk => ?_⟩
            by_cases e : k = m
            · subst e; exact KO.out
            · exact HS.out k (by omega)
          case measure => simp [intOf]; omega
        | false =>
          clear hsm hkb
          go_wp2_with fail
          refine (HCB.out _).mono ?_
          rintro e w' ⟨rfl, rfl⟩
          go_wp2
          go_ret
          exact ⟨false, rfl, HU.out, fun h => by cases h⟩
    · obtain rfl : m = n := by omega
      go_wp2
      go_ret
      exact ⟨true, rfl, HU.out, fun _ => HS.out⟩
end Go.Proofs.YtlmadbgpllokfaaGreatFmt
