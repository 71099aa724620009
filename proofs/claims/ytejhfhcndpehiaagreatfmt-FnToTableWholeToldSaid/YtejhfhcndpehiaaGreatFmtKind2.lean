/- What a state's index names, read: walked. -/
import Derived.Test.YtejhfhcndpehiaaGreatFmtKind1
namespace Go.Proofs.YtejhfhcndpehiaaGreatFmt
open Go.RowKit
set_option maxRecDepth 100000

def nilv : Value := .iface 112 (.int .u8 0)

set_option maxHeartbeats 800000 in
theorem get_at (S G R A RT GT E n i : Nat) (f : Nat → Value) (w : World) (hi : i < n) (hn : n ≤ 65536) (h : Sta w S G R A RT GT E n n f) :
    Calls Tryz.prog 43 #[.pointer (some ⟨S, 0, none⟩), .int .i64 ((i : Int) + 1)] w fun e w' => e = .returned (f i) ∧ w = w' := by
  have s := h.st.at (o := 13) rfl
  have H := Lib.hid h
  clear h
  go_enter Tryz.func43, Tryz.ntmps43
  go_wp2_with fail
  refine (st_base S G R A RT GT E n n f _ H.out).mono ?_
  rintro e w' ⟨rfl, rfl⟩
  go_wp2_with fail
  refine (reg_top S G R A RT GT E n n f _ H.out).mono ?_
  rintro e w' ⟨rfl, rfl⟩
  go_wp2_with fail
  refine (reg_get S G R A RT GT E n n i f _ hi hn H.out).mono ?_
  rintro e w' ⟨rfl, rfl⟩
  go_wp2
  go_ret
  exact ⟨rfl, rfl⟩

set_option maxHeartbeats 800000 in
theorem get_past (S G R A RT GT E n : Nat) (i : Int) (f : Nat → Value) (w : World) (hi : (n : Int) < i) (hm : i ≤ 9223372036854775807) (hn : n ≤ 65536) (h : Sta w S G R A RT GT E n n f) :
    Calls Tryz.prog 43 #[.pointer (some ⟨S, 0, none⟩), .int .i64 i] w fun e w' => e = .returned nilv ∧ w = w' := by
  have s := h.st.at (o := 13) rfl
  have H := Lib.hid h
  clear h
  have e0 : (0 : Int) < i := by omega
  go_enter Tryz.func43, Tryz.ntmps43
  go_wp2_with fail
  refine (st_base S G R A RT GT E n n f _ H.out).mono ?_
  rintro e w' ⟨rfl, rfl⟩
  go_wp2_with fail
  refine (reg_top S G R A RT GT E n n f _ H.out).mono ?_
  rintro e w' ⟨rfl, rfl⟩
  go_wp2
  go_ret
  exact ⟨rfl, rfl⟩

set_option maxHeartbeats 800000 in
theorem get_zero (S G R A RT GT E n : Nat) (f : Nat → Value) (w : World) (h : Sta w S G R A RT GT E n n f) :
    Calls Tryz.prog 43 #[.pointer (some ⟨S, 0, none⟩), .int .i64 0] w fun e w' => e = .returned nilv ∧ w = w' := by
  have H := Lib.hid h
  clear h
  go_enter Tryz.func43, Tryz.ntmps43
  go_wp2_with fail
  refine (st_base S G R A RT GT E n n f _ H.out).mono ?_
  rintro e w' ⟨rfl, rfl⟩
  go_wp2
  go_ret
  exact ⟨rfl, rfl⟩

set_option maxHeartbeats 800000 in
theorem get_neg (S G R A RT GT E n i : Nat) (f : Nat → Value) (w : World) (hi : i < n) (hl : n < i + 10000) (hn : n ≤ 65536) (h : Sta w S G R A RT GT E n n f) :
    Calls Tryz.prog 43 #[.pointer (some ⟨S, 0, none⟩), .int .i64 ((i : Int) - n)] w fun e w' => e = .returned (f i) ∧ w = w' := by
  have s := h.st.at (o := 13) rfl
  have H := Lib.hid h
  clear h
  have e0 : (i : Int) - n < 0 := by omega
  have e1 : (-10000 : Int) < (i : Int) - n := by omega
  go_enter Tryz.func43, Tryz.ntmps43
  go_wp2_with fail
  refine (st_base S G R A RT GT E n n f _ H.out).mono ?_
  rintro e w' ⟨rfl, rfl⟩
  go_wp2_with fail
  refine (reg_top S G R A RT GT E n n f _ H.out).mono ?_
  rintro e w' ⟨rfl, rfl⟩
  go_wp2_with fail
  rw [show (n : Int) + ((i : Int) - (n : Int)) = (i : Int) by omega]
  refine (reg_get S G R A RT GT E n n i f _ hi hn H.out).mono ?_
  rintro e w' ⟨rfl, rfl⟩
  go_wp2
  go_ret
  exact ⟨rfl, rfl⟩

set_option maxHeartbeats 800000 in
theorem get_below (S G R A RT GT E n : Nat) (i : Int) (f : Nat → Value) (w : World) (hi : i < -(n : Int)) (hl : -10000 < i) (hn : n ≤ 65536) (h : Sta w S G R A RT GT E n n f) :
    Calls Tryz.prog 43 #[.pointer (some ⟨S, 0, none⟩), .int .i64 i] w fun e w' => e = .returned nilv ∧ w = w' := by
  have s := h.st.at (o := 13) rfl
  have H := Lib.hid h
  clear h
  go_enter Tryz.func43, Tryz.ntmps43
  go_wp2_with fail
  refine (st_base S G R A RT GT E n n f _ H.out).mono ?_
  rintro e w' ⟨rfl, rfl⟩
  go_wp2_with fail
  refine (reg_top S G R A RT GT E n n f _ H.out).mono ?_
  rintro e w' ⟨rfl, rfl⟩
  go_wp2
  go_ret
  exact ⟨rfl, rfl⟩

set_option maxHeartbeats 800000 in
theorem get_registry (S G R A RT GT E n : Nat) (f : Nat → Value) (w : World) (h : Sta w S G R A RT GT E n n f) :
    Calls Tryz.prog 43 #[.pointer (some ⟨S, 0, none⟩), .int .i64 (-10000)] w fun e w' => e = .returned (.iface 34 (.pointer (some ⟨RT, 0, none⟩))) ∧ w = w' := by
  have s := h.st.at (o := 0) rfl
  have g := h.g.at (o := 2) rfl
  have H := Lib.hid h
  clear h
  go_enter Tryz.func43, Tryz.ntmps43
  go_wp2_with fail
  refine (st_base S G R A RT GT E n n f _ H.out).mono ?_
  rintro e w' ⟨rfl, rfl⟩
  go_wp2
  go_ret
  exact ⟨rfl, rfl⟩

set_option maxHeartbeats 800000 in
theorem get_globals (S G R A RT GT E n : Nat) (f : Nat → Value) (w : World) (h : Sta w S G R A RT GT E n n f) :
    Calls Tryz.prog 43 #[.pointer (some ⟨S, 0, none⟩), .int .i64 (-10002)] w fun e w' => e = .returned (.iface 34 (.pointer (some ⟨GT, 0, none⟩))) ∧ w = w' := by
  have s := h.st.at (o := 0) rfl
  have g := h.g.at (o := 3) rfl
  have H := Lib.hid h
  clear h
  go_enter Tryz.func43, Tryz.ntmps43
  go_wp2_with fail
  refine (st_base S G R A RT GT E n n f _ H.out).mono ?_
  rintro e w' ⟨rfl, rfl⟩
  go_wp2
  go_ret
  exact ⟨rfl, rfl⟩

set_option maxHeartbeats 800000 in
theorem get_environ (S G R A RT GT E n : Nat) (f : Nat → Value) (w : World) (h : Sta w S G R A RT GT E n n f) :
    Calls Tryz.prog 43 #[.pointer (some ⟨S, 0, none⟩), .int .i64 (-10001)] w fun e w' => e = .returned (.iface 34 (.pointer (some ⟨E, 0, none⟩))) ∧ w = w' := by
  have s := h.st.at (o := 2) rfl
  have s16 := h.st.at (o := 16) rfl
  have H := Lib.hid h
  clear h
  go_enter Tryz.func43, Tryz.ntmps43
  go_wp2_with fail
  refine (st_base S G R A RT GT E n n f _ H.out).mono ?_
  rintro e w' ⟨rfl, rfl⟩
  go_wp2
  go_ret
  exact ⟨rfl, rfl⟩
end Go.Proofs.YtejhfhcndpehiaaGreatFmt
