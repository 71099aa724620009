/- FnToThreadSignAgree, walked. -/
import Derived.Test.YtejhfhcndpehiaaGreatFmtKind5
import Derived.IntWalk
namespace Go.Proofs.YtejhfhcndpehiaaGreatFmt
open Go.RowKit
set_option maxRecDepth 100000

set_option maxHeartbeats 1600000 in
theorem signThread (aK : Option Addr) (k cK : Nat) (f : Nat → Int) (w : World) (hk : k ≤ 65536) (hf : ∀ j, j < k → 0 ≤ f j ∧ f j ≤ 255) (hK : Cells w aK k fun j => .int .u8 (f j)) :
    Calls Tryz.prog 3 #[.slice aK k cK] w (Good w) := by
  have HK := Lib.hid hK
  have HF := Lib.hid hf
  have d1 : decide ((65536 : Int) < (k : Int)) = false := decide_eq_false (by omega)
  clear hK hf
  go_enter Tryz.func3, Tryz.ntmps3
  go_wp2_with fail
  refine (zzThreadS aK k cK _ (by omega)).mono ?_
  rintro e w' ⟨rfl, rfl⟩
  go_wp2_with fail
  refine (cloneByte aK k cK f _ (by omega) HK.out).mono ?_
  rintro e w1 ⟨a1, c1, rfl, hu1, h1⟩
  have U1 := Lib.hid hu1
  have C1 := Lib.hid (Cells.of_blk h1)
  clear hu1 h1
  go_wp2_with fail
  refine (build a1 k c1 f _ hk HF.out C1.out).mono ?_
  rintro e w2 ⟨S, G, R, A, RT, GT, Tb, Fb, Ub, Hb, o, x, rfl, hB⟩
  obtain ⟨Kd, hKd⟩ : ∃ Kd : Nat → Nat, (fun m => (f m % 6).toNat) = Kd := ⟨_, rfl⟩
  rw [hKd] at hB
  have B2 := Lib.hid hB.fin
  have HKd := Lib.hid (show ∀ m, Kd m < 6 from fun m => by rw [← hKd]; show (f m % 6).toNat < 6; omega)
  clear hB d1 hKd
  go_wp2_with fail
  refine (zzlo k _ hk).mono ?_
  rintro e w' ⟨L, rfl, rfl, hL1, hL2⟩
  go_wp2_with fail
  go_loopw [9] (fun i wq => ∃ q : Nat, L ≤ q ∧ q ≤ k ∧ i = .int .i64 ((q : Int) + 1) ∧ Fin w1 wq S G R A RT GT GT Tb Fb Ub Hb k Kd o x) (fun i _ => k + 1 - (intOf i).toNat)
  case atStart => exact ⟨L, Nat.le_refl _, hL1, rfl, B2.out⟩
  case round =>
    obtain ⟨q, hq1, hq2, rfl, hB⟩ := hrel
    have B3 := Lib.hid hB
    clear hB B2
    by_cases hlt : q < k
    · have e1 : (q : Int) + 1 ≤ (k : Int) := by omega
      have c1 := B3.out.hb.at (tab_in hlt)
      have hw1 : IntKind.i64.wrap ((q : Int) + 1 - 1) = (q : Int) := by rw [IntWalk.i64_in _ (by omega)]; omega
      have i1 : (0 : Int) ≤ (q : Int) := by omega
      have i2 : (q : Int) < (k : Int) := by omega
      go_wp2_with fail
      refine (toThread_item S _ (Kd q) (o q) (x q) _ (HKd.out q) (get_at S G R A RT GT GT k q _ _ hlt hk B3.out.st)).mono ?_
      rintro e w' ⟨rfl, rfl⟩
      go_wp2_with fail
      rw [show (q : Int) + 1 - (k : Int) - 1 = (q : Int) - (k : Int) by omega]
      refine (toThread_item S _ (Kd q) (o q) (x q) _ (HKd.out q) (get_neg S G R A RT GT GT k q _ _ hlt (by omega) hk B3.out.st)).mono ?_
      rintro e w' ⟨rfl, rfl⟩
      go_wp2
      go_roundw
      case rel => exact ⟨q + 1, by omega, by omega, by go_num, B3.out⟩
      case measure => simp [intOf]; omega
    · obtain rfl : q = k := by omega
      by_cases hs : q + 1 < 10000
      · have i1 : (q : Int) + 1 < 10000 := by omega
        go_wp2_with fail
        refine (toThread_nil S _ _ (get_past S G R A RT GT GT q _ _ _ (by omega) (by omega) hk B3.out.st)).mono ?_
        rintro e w' ⟨rfl, rfl⟩
        go_wp2_with fail
        refine (toThread_nil S _ _ (get_zero S G R A RT GT GT q _ _ B3.out.st)).mono ?_
        rintro e w' ⟨rfl, rfl⟩
        go_wp2_with fail
        refine (toThread_nil S _ _ (get_below S G R A RT GT GT q _ _ _ (by omega) (by omega) hk B3.out.st)).mono ?_
        rintro e w' ⟨rfl, rfl⟩
        go_wp2
        go_ret
        exact ⟨rfl, (U1.out.trans B3.out.upd).below (Nat.le_refl _) (fun k h => h.elim)⟩
      · have d2 : decide ((q : Int) + 1 < 10000) = false := decide_eq_false (by omega)
        go_wp2_with fail
        refine (toThread_nil S _ _ (get_past S G R A RT GT GT q _ _ _ (by omega) (by omega) hk B3.out.st)).mono ?_
        rintro e w' ⟨rfl, rfl⟩
        go_wp2_with fail
        refine (toThread_nil S _ _ (get_zero S G R A RT GT GT q _ _ B3.out.st)).mono ?_
        rintro e w' ⟨rfl, rfl⟩
        go_wp2
        go_ret
        exact ⟨rfl, (U1.out.trans B3.out.upd).below (Nat.le_refl _) (fun k h => h.elim)⟩

set_option maxHeartbeats 400000 in
theorem signThread_long (aK : Option Addr) (k cK : Nat) (w : World) (hkm : k ≤ 9223372036854775807) (hk : ¬ k ≤ 65536) :
    Calls Tryz.prog 3 #[.slice aK k cK] w (Good w) := by
  have d1 : decide ((65536 : Int) < (k : Int)) = true := decide_eq_true (by omega)
  have hz := zzThreadS_any aK k cK w hkm
  clear hkm hk
  go_enter Tryz.func3, Tryz.ntmps3
  go_wp2_with fail
  refine hz.mono ?_
  rintro e w' ⟨b, rfl, rfl⟩
  cases b
  all_goals
    go_wp2
    go_ret
    exact ⟨rfl, Below.refl _ _⟩
end Go.Proofs.YtejhfhcndpehiaaGreatFmt
