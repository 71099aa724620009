/- A local looked for, read and written, walked. -/
import Derived.Test.YtnmjidkbaohliaaGreatFmtLoc5
namespace Go.Proofs.YtnmjidkbaohliaaGreatFmt
open Go.RowKit
set_option maxRecDepth 100000

/-- The name of a local that has none. -/
abbrev tmpS : ByteArray := { data := #[40, 42, 116, 101, 109, 112, 111, 114, 97, 114, 121, 41] }

theorem Loc.ne66 {w0 w : World} {A R S n k : Nat} {f : Nat → Int} {v : Nat → Value} (h : Loc w0 w A R S n k f v) {i j : Nat} (hij : i ≠ j) :
    (binOp .eql 66 (.pointer (some ⟨A, i * 10, none⟩)) (.pointer (some ⟨A, j * 10, none⟩))).run Tryz.prog w = .ok (.bool false) w := by
  obtain ⟨d, hd, hs⟩ := info71some
  refine run_eql_ptr_other w Tryz.underlying66 hd hs (fun e => ?_) h.fr h.fr
  injection e
  omega

set_option maxHeartbeats 800000 in
theorem find_last (A R S n i : Nat) (f : Nat → Int) (v : Nat → Value) (no : Int) (w0 w : World) (hn : n ≤ 65536) (hi : i < 4096) (hf : 0 ≤ f i ∧ f i ≤ 65536) (hL : Loc w0 w A R S n (i + 1) f v) :
    Calls Tryz.prog 60 #[.pointer (some ⟨S, 0, none⟩), .pointer (some ⟨A, i * 10, none⟩), .int .i64 no] w fun e w' => e = .returned (.string (if no ≤ (n : Int) - (f i + 1) then tmpS else ByteArray.empty)) ∧ Upd (fun _ => False) w w' := by
  have s16 := hL.ss.at (o := 16) rfl
  have s13 := hL.ss.at (o := 13) rfl
  have c1 := hL.frame (i := i) (c := 1) (by omega) (by omega) rfl
  have c5 := hL.frame (i := i) (c := 5) (by omega) (by omega) rfl
  have g0 := hL.fn.at (o := 0) rfl
  have hb : below A (i + 1) = some ⟨A, i * 10, none⟩ := by unfold below; rw [if_neg (by omega)]; rfl
  rw [hb] at s16
  have HL := Lib.hid hL
  clear hL hb
  by_cases hc : no ≤ (n : Int) - (f i + 1)
  · rw [if_pos hc]
    go_enter Tryz.func60, Tryz.ntmps60
    go_wp2_with (go_at_call 69; refine (reg_top69 (R + 1) R n n _ (by exact HL.out.gg)).mono ?_; rintro e w' ⟨rfl, rfl⟩)
    go_ret
    exact ⟨rfl, Upd.refl _ _⟩
  · rw [if_neg hc]
    go_enter Tryz.func60, Tryz.ntmps60
    go_wp2_with (go_at_call 69; refine (reg_top69 (R + 1) R n n _ (by exact HL.out.gg)).mono ?_; rintro e w' ⟨rfl, rfl⟩)
    go_ret
    exact ⟨rfl, Upd.refl _ _⟩

set_option maxHeartbeats 800000 in
theorem find_mid (A R S n k i : Nat) (f : Nat → Int) (v : Nat → Value) (no : Int) (w0 w : World) (hk : k ≤ 4096) (hi : i + 1 < k) (hf : 0 ≤ f i ∧ f i ≤ 65536) (hf1 : 0 ≤ f (i + 1) ∧ f (i + 1) ≤ 65536) (hL : Loc w0 w A R S n k f v) :
    Calls Tryz.prog 60 #[.pointer (some ⟨S, 0, none⟩), .pointer (some ⟨A, i * 10, none⟩), .int .i64 no] w fun e w' => e = .returned (.string (if no ≤ f (i + 1) - (f i + 1) then tmpS else ByteArray.empty)) ∧ Upd (fun _ => False) w w' := by
  have s16 := hL.ss.at (o := 16) rfl
  have s14 := hL.ss.at (o := 14) rfl
  have c0 : w.cell? ⟨A, i * 10, none⟩ = some (.int .i64 i) := hL.frame (i := i) (c := 0) (by omega) (by omega) rfl
  have c1 := hL.frame (i := i) (c := 1) (by omega) (by omega) rfl
  have c5 := hL.frame (i := i) (c := 5) (by omega) (by omega) rfl
  have c4 := hL.frame (i := i + 1) (c := 4) (by omega) (by omega) rfl
  have g0 := hL.fn.at (o := 0) rfl
  have hb : below A k = some ⟨A, (k - 1) * 10, none⟩ := by unfold below; rw [if_neg (by omega)]
  rw [hb] at s16
  have hne := hL.ne66 (i := k - 1) (j := i) (by omega)
  have hlt : (i : Int) + 1 < (k : Int) := by omega
  have hw : IntKind.i64.wrap ((i : Int) + 1) = (i : Int) + 1 := IntWalk.i64_in _ (by omega)
  have HE := Lib.hid (show ((i : Int) + 1) = ((i + 1 : Nat) : Int) by omega)
  have HL := Lib.hid hL
  clear hL hb
  by_cases hc : no ≤ f (i + 1) - (f i + 1)
  · rw [if_pos hc]
    go_enter Tryz.func60, Tryz.ntmps60
    go_wp2
    go_quiet ((go_at_call 236; exact Calls.quiet_of_same (stk_sp (A + 1) A k k _ (by exact HL.out.st))))
    go_wp2
    have HU2 := Lib.hid ((Upd.refl (fun _ => False) w).drewN nq)
    have HL2 := Lib.hid (HL.out.drewN nq)
    generalize w.drewN nq = w2 at HU2 HL2 ⊢
    clear s16 s14 c0 c1 c5 c4 g0 HL
    have s14 := HL2.out.ss.at (o := 14) rfl
    have c0 : w2.cell? ⟨A, i * 10, none⟩ = some (.int .i64 i) := HL2.out.frame (i := i) (c := 0) (by omega) (by omega) rfl
    have c5 := HL2.out.frame (i := i) (c := 5) (by omega) (by omega) rfl
    have c4 := HL2.out.frame (i := i + 1) (c := 4) (by omega) (by omega) rfl
    go_quiet ((go_at_call 227; rw [HE.out]; exact Calls.quiet_of_same (stk_at (A + 1) A k (i + 1) k _ hi (by exact HL2.out.st))))
    go_wp2
    go_ret
    exact ⟨rfl, HU2.out.drewN _⟩
  · rw [if_neg hc]
    go_enter Tryz.func60, Tryz.ntmps60
    go_wp2
    go_quiet ((go_at_call 236; exact Calls.quiet_of_same (stk_sp (A + 1) A k k _ (by exact HL.out.st))))
    go_wp2
    have HU2 := Lib.hid ((Upd.refl (fun _ => False) w).drewN nq)
    have HL2 := Lib.hid (HL.out.drewN nq)
    generalize w.drewN nq = w2 at HU2 HL2 ⊢
    clear s16 s14 c0 c1 c5 c4 g0 HL
    have s14 := HL2.out.ss.at (o := 14) rfl
    have c0 : w2.cell? ⟨A, i * 10, none⟩ = some (.int .i64 i) := HL2.out.frame (i := i) (c := 0) (by omega) (by omega) rfl
    have c5 := HL2.out.frame (i := i) (c := 5) (by omega) (by omega) rfl
    have c4 := HL2.out.frame (i := i + 1) (c := 4) (by omega) (by omega) rfl
    go_quiet ((go_at_call 227; rw [HE.out]; exact Calls.quiet_of_same (stk_at (A + 1) A k (i + 1) k _ hi (by exact HL2.out.st))))
    go_wp2
    go_ret
    exact ⟨rfl, HU2.out.drewN _⟩
end Go.Proofs.YtnmjidkbaohliaaGreatFmt
