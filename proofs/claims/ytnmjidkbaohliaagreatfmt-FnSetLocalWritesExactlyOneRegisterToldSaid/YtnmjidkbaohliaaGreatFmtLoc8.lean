/- The look at all registers, walked. -/
import Derived.Test.YtnmjidkbaohliaaGreatFmtLoc7
namespace Go.Proofs.YtnmjidkbaohliaaGreatFmt
open Go.RowKit
set_option maxRecDepth 100000

set_option maxHeartbeats 1600000 in
theorem equals42 (A R S n k cV : Nat) (aV : Option Addr) (f : Nat → Int) (v : Nat → Value) (x : Nat → Nat) (t : Int) (y : Nat) (w0 w : World) (hn : n ≤ 65536)
    (hv : ∀ m, m < n → ((m : Int) = t → v m = .iface 96 (.float .f64 y)) ∧ (¬ (m : Int) = t → v m = .iface 96 (.float .f64 (x m))))
    (hV : Cells w aV n fun j => .float .f64 (x j)) (hL : Loc w0 w A R S n k f v) :
    Calls Tryz.prog 42 #[.pointer (some ⟨S, 0, none⟩), .slice aV n cV, .int .i64 t, .float .f64 y] w fun e w' => e = .returned (.bool true) ∧ w = w' := by
  have HV := Lib.hid hV
  have HL := Lib.hid hL
  have HW := Lib.hid hv
  clear hV hL hv
  go_enter Tryz.func42, Tryz.ntmps42
  go_wp2_with fail
  refine (sts_reg S (A + 1) (R + 1) _ _ HL.out.ss).mono ?_
  rintro e w' ⟨rfl, rfl⟩
  go_wp2_with fail
  refine (reg_top (R + 1) R n n _ HL.out.gg).mono ?_
  rintro e w' ⟨rfl, rfl⟩
  go_wp2_with fail
  go_loopw [10] (fun i wr => ∃ j : Nat, j ≤ n ∧ i = .int .i64 j ∧ wr = w) (fun i _ => n - (intOf i).toNat)
  case atStart => exact ⟨0, Nat.zero_le _, rfl, rfl⟩
  case round =>
    obtain ⟨j, hj, rfl, rfl⟩ := hrel
    by_cases hlt : j < n
    · obtain ⟨b, off, rfl, hc⟩ := HV.out.one hlt
      by_cases e : t = (j : Int)
      · subst e
        go_wp2_with fail
        refine (reg_get (R + 1) R n j n v _ hlt hn HL.out.gg HL.out.rg).mono ?_
        rintro ee w' ⟨rfl, rfl⟩
        rw [(HW.out j hlt).1 rfl]
        go_wp2_with fail
        refine (number24 _ _).mono ?_
        rintro ee w' ⟨rfl, rfl⟩
        go_wp2_with fail
        refine (same25 _ _).mono ?_
        rintro ee w' ⟨rfl, rfl⟩
        go_wp2
        go_roundw
        case rel => exact ⟨j + 1, by omega, by go_num, by simp⟩
        case measure => simp [intOf]; omega
      · have e' : ¬ (j : Int) = t := fun h => e h.symm
        have hvj := (HW.out j hlt).2 e'
        clear e
        go_wp2_with fail
        refine (reg_get (R + 1) R n j n v _ hlt hn HL.out.gg HL.out.rg).mono ?_
        rintro ee w' ⟨rfl, rfl⟩
        rw [hvj]
        go_wp2_with fail
        refine (number24 _ _).mono ?_
        rintro ee w' ⟨rfl, rfl⟩
        go_wp2_with fail
        refine (same25 _ _).mono ?_
        rintro ee w' ⟨rfl, rfl⟩
        go_wp2
        go_roundw
        case rel => exact ⟨j + 1, by omega, by go_num, by simp⟩
        case measure => simp [intOf]; omega
    · obtain rfl : j = n := by omega
      go_wp2
      go_ret
      exact ⟨rfl, rfl⟩
end Go.Proofs.YtnmjidkbaohliaaGreatFmt
