/- What a register of the n005_62 laws holds, by its kind, and what the four methods To.. make of it: walked. -/
import Derived.Test.YtejhfhcndpehiaaGreatFmtKind2
namespace Go.Proofs.YtejhfhcndpehiaaGreatFmt
open Go.RowKit
set_option maxRecDepth 100000

/-- What a register holds, by its kind; o: the block of the object, x: what is no object. -/
def item (K o : Nat) (x : Value) : Value :=
  match K with
  | 0 => .iface 95 x
  | 1 => .iface 74 x
  | 2 => .iface 34 (.pointer (some ⟨o, 0, none⟩))
  | 3 => .iface 36 (.pointer (some ⟨o, 0, none⟩))
  | 4 => .iface 38 (.pointer (some ⟨o, 0, none⟩))
  | _ => .iface 25 (.pointer (some ⟨o, 0, none⟩))
/-- The object of kind T, if it is of that kind. -/
def pick (T K o : Nat) : Option Addr := if K = T then some ⟨o, 0, none⟩ else none

set_option maxHeartbeats 400000 in
theorem toTable_yes (S : Nat) (idx : Int) (t : TypeId) (x : Value) (p : Option Addr) (w : World) (hta : (Instr.typeAssert (.iface t x) 44 34 true).run Tryz.prog w = .ok (.tuple #[.pointer p, .bool true]) w)
    (hget : Calls Tryz.prog 43 #[.pointer (some ⟨S, 0, none⟩), .int .i64 idx] w fun e w' => e = .returned (.iface t x) ∧ w = w') :
    Calls Tryz.prog 19 #[.pointer (some ⟨S, 0, none⟩), .int .i64 idx] w fun e w' => e = .returned (.pointer p) ∧ w = w' := by
  go_enter Tryz.func19, Tryz.ntmps19
  go_wp2_with fail
  refine hget.mono ?_
  rintro e w' ⟨rfl, rfl⟩
  go_wp2
  go_ret
  exact ⟨rfl, rfl⟩

set_option maxHeartbeats 400000 in
theorem toTable_no (S : Nat) (idx : Int) (t : TypeId) (x : Value) (y : Value) (w : World) (hta : (Instr.typeAssert (.iface t x) 44 34 true).run Tryz.prog w = .ok (.tuple #[y, .bool false]) w)
    (hget : Calls Tryz.prog 43 #[.pointer (some ⟨S, 0, none⟩), .int .i64 idx] w fun e w' => e = .returned (.iface t x) ∧ w = w') :
    Calls Tryz.prog 19 #[.pointer (some ⟨S, 0, none⟩), .int .i64 idx] w fun e w' => e = .returned (.pointer none) ∧ w = w' := by
  go_enter Tryz.func19, Tryz.ntmps19
  go_wp2_with fail
  refine hget.mono ?_
  rintro e w' ⟨rfl, rfl⟩
  go_wp2
  go_ret
  exact ⟨rfl, rfl⟩

theorem toTable_item (S : Nat) (idx : Int) (K ob : Nat) (x : Value) (w : World) (hK : K < 6)
    (hget : Calls Tryz.prog 43 #[.pointer (some ⟨S, 0, none⟩), .int .i64 idx] w fun e w' => e = .returned (item K ob x) ∧ w = w') :
    Calls Tryz.prog 19 #[.pointer (some ⟨S, 0, none⟩), .int .i64 idx] w fun e w' => e = .returned (.pointer (pick 2 K ob)) ∧ w = w' := by
  match K, hK with
  | 0, _ => exact toTable_no S idx _ _ _ w (asNUM_TAB _ w) hget
  | 1, _ => exact toTable_no S idx _ _ _ w (asSTR_TAB _ w) hget
  | 2, _ => exact toTable_yes S idx _ _ (some ⟨ob, 0, none⟩) w (asTAB_TAB _ w) hget
  | 3, _ => exact toTable_no S idx _ _ _ w (asFN_TAB _ w) hget
  | 4, _ => exact toTable_no S idx _ _ _ w (asUD_TAB _ w) hget
  | 5, _ => exact toTable_no S idx _ _ _ w (asTH_TAB _ w) hget
theorem toTable_nil (S : Nat) (idx : Int) (w : World)
    (hget : Calls Tryz.prog 43 #[.pointer (some ⟨S, 0, none⟩), .int .i64 idx] w fun e w' => e = .returned nilv ∧ w = w') :
    Calls Tryz.prog 19 #[.pointer (some ⟨S, 0, none⟩), .int .i64 idx] w fun e w' => e = .returned (.pointer none) ∧ w = w' :=
  toTable_no S idx _ _ _ w (asNIL_TAB _ w) hget
theorem toTable_tab (S : Nat) (idx : Int) (p : Option Addr) (w : World)
    (hget : Calls Tryz.prog 43 #[.pointer (some ⟨S, 0, none⟩), .int .i64 idx] w fun e w' => e = .returned (.iface 34 (.pointer p)) ∧ w = w') :
    Calls Tryz.prog 19 #[.pointer (some ⟨S, 0, none⟩), .int .i64 idx] w fun e w' => e = .returned (.pointer p) ∧ w = w' :=
  toTable_yes S idx _ _ p w (asTAB_TAB _ w) hget

set_option maxHeartbeats 400000 in
theorem toFunction_yes (S : Nat) (idx : Int) (t : TypeId) (x : Value) (p : Option Addr) (w : World) (hta : (Instr.typeAssert (.iface t x) 44 36 true).run Tryz.prog w = .ok (.tuple #[.pointer p, .bool true]) w)
    (hget : Calls Tryz.prog 43 #[.pointer (some ⟨S, 0, none⟩), .int .i64 idx] w fun e w' => e = .returned (.iface t x) ∧ w = w') :
    Calls Tryz.prog 21 #[.pointer (some ⟨S, 0, none⟩), .int .i64 idx] w fun e w' => e = .returned (.pointer p) ∧ w = w' := by
  go_enter Tryz.func21, Tryz.ntmps21
  go_wp2_with fail
  refine hget.mono ?_
  rintro e w' ⟨rfl, rfl⟩
  go_wp2
  go_ret
  exact ⟨rfl, rfl⟩

set_option maxHeartbeats 400000 in
theorem toFunction_no (S : Nat) (idx : Int) (t : TypeId) (x : Value) (y : Value) (w : World) (hta : (Instr.typeAssert (.iface t x) 44 36 true).run Tryz.prog w = .ok (.tuple #[y, .bool false]) w)
    (hget : Calls Tryz.prog 43 #[.pointer (some ⟨S, 0, none⟩), .int .i64 idx] w fun e w' => e = .returned (.iface t x) ∧ w = w') :
    Calls Tryz.prog 21 #[.pointer (some ⟨S, 0, none⟩), .int .i64 idx] w fun e w' => e = .returned (.pointer none) ∧ w = w' := by
  go_enter Tryz.func21, Tryz.ntmps21
  go_wp2_with fail
  refine hget.mono ?_
  rintro e w' ⟨rfl, rfl⟩
  go_wp2
  go_ret
  exact ⟨rfl, rfl⟩

theorem toFunction_item (S : Nat) (idx : Int) (K ob : Nat) (x : Value) (w : World) (hK : K < 6)
    (hget : Calls Tryz.prog 43 #[.pointer (some ⟨S, 0, none⟩), .int .i64 idx] w fun e w' => e = .returned (item K ob x) ∧ w = w') :
    Calls Tryz.prog 21 #[.pointer (some ⟨S, 0, none⟩), .int .i64 idx] w fun e w' => e = .returned (.pointer (pick 3 K ob)) ∧ w = w' := by
  match K, hK with
  | 0, _ => exact toFunction_no S idx _ _ _ w (asNUM_FN _ w) hget
  | 1, _ => exact toFunction_no S idx _ _ _ w (asSTR_FN _ w) hget
  | 2, _ => exact toFunction_no S idx _ _ _ w (asTAB_FN _ w) hget
  | 3, _ => exact toFunction_yes S idx _ _ (some ⟨ob, 0, none⟩) w (asFN_FN _ w) hget
  | 4, _ => exact toFunction_no S idx _ _ _ w (asUD_FN _ w) hget
  | 5, _ => exact toFunction_no S idx _ _ _ w (asTH_FN _ w) hget
theorem toFunction_nil (S : Nat) (idx : Int) (w : World)
    (hget : Calls Tryz.prog 43 #[.pointer (some ⟨S, 0, none⟩), .int .i64 idx] w fun e w' => e = .returned nilv ∧ w = w') :
    Calls Tryz.prog 21 #[.pointer (some ⟨S, 0, none⟩), .int .i64 idx] w fun e w' => e = .returned (.pointer none) ∧ w = w' :=
  toFunction_no S idx _ _ _ w (asNIL_FN _ w) hget
theorem toFunction_tab (S : Nat) (idx : Int) (p : Option Addr) (w : World)
    (hget : Calls Tryz.prog 43 #[.pointer (some ⟨S, 0, none⟩), .int .i64 idx] w fun e w' => e = .returned (.iface 34 (.pointer p)) ∧ w = w') :
    Calls Tryz.prog 21 #[.pointer (some ⟨S, 0, none⟩), .int .i64 idx] w fun e w' => e = .returned (.pointer none) ∧ w = w' :=
  toFunction_no S idx _ _ _ w (asTAB_FN _ w) hget

set_option maxHeartbeats 400000 in
theorem toUserData_yes (S : Nat) (idx : Int) (t : TypeId) (x : Value) (p : Option Addr) (w : World) (hta : (Instr.typeAssert (.iface t x) 44 38 true).run Tryz.prog w = .ok (.tuple #[.pointer p, .bool true]) w)
    (hget : Calls Tryz.prog 43 #[.pointer (some ⟨S, 0, none⟩), .int .i64 idx] w fun e w' => e = .returned (.iface t x) ∧ w = w') :
    Calls Tryz.prog 23 #[.pointer (some ⟨S, 0, none⟩), .int .i64 idx] w fun e w' => e = .returned (.pointer p) ∧ w = w' := by
  go_enter Tryz.func23, Tryz.ntmps23
  go_wp2_with fail
  refine hget.mono ?_
  rintro e w' ⟨rfl, rfl⟩
  go_wp2
  go_ret
  exact ⟨rfl, rfl⟩

set_option maxHeartbeats 400000 in
theorem toUserData_no (S : Nat) (idx : Int) (t : TypeId) (x : Value) (y : Value) (w : World) (hta : (Instr.typeAssert (.iface t x) 44 38 true).run Tryz.prog w = .ok (.tuple #[y, .bool false]) w)
    (hget : Calls Tryz.prog 43 #[.pointer (some ⟨S, 0, none⟩), .int .i64 idx] w fun e w' => e = .returned (.iface t x) ∧ w = w') :
    Calls Tryz.prog 23 #[.pointer (some ⟨S, 0, none⟩), .int .i64 idx] w fun e w' => e = .returned (.pointer none) ∧ w = w' := by
  go_enter Tryz.func23, Tryz.ntmps23
  go_wp2_with fail
  refine hget.mono ?_
  rintro e w' ⟨rfl, rfl⟩
  go_wp2
  go_ret
  exact ⟨rfl, rfl⟩

theorem toUserData_item (S : Nat) (idx : Int) (K ob : Nat) (x : Value) (w : World) (hK : K < 6)
    (hget : Calls Tryz.prog 43 #[.pointer (some ⟨S, 0, none⟩), .int .i64 idx] w fun e w' => e = .returned (item K ob x) ∧ w = w') :
    Calls Tryz.prog 23 #[.pointer (some ⟨S, 0, none⟩), .int .i64 idx] w fun e w' => e = .returned (.pointer (pick 4 K ob)) ∧ w = w' := by
  match K, hK with
  | 0, _ => exact toUserData_no S idx _ _ _ w (asNUM_UD _ w) hget
  | 1, _ => exact toUserData_no S idx _ _ _ w (asSTR_UD _ w) hget
  | 2, _ => exact toUserData_no S idx _ _ _ w (asTAB_UD _ w) hget
  | 3, _ => exact toUserData_no S idx _ _ _ w (asFN_UD _ w) hget
  | 4, _ => exact toUserData_yes S idx _ _ (some ⟨ob, 0, none⟩) w (asUD_UD _ w) hget
  | 5, _ => exact toUserData_no S idx _ _ _ w (asTH_UD _ w) hget
theorem toUserData_nil (S : Nat) (idx : Int) (w : World)
    (hget : Calls Tryz.prog 43 #[.pointer (some ⟨S, 0, none⟩), .int .i64 idx] w fun e w' => e = .returned nilv ∧ w = w') :
    Calls Tryz.prog 23 #[.pointer (some ⟨S, 0, none⟩), .int .i64 idx] w fun e w' => e = .returned (.pointer none) ∧ w = w' :=
  toUserData_no S idx _ _ _ w (asNIL_UD _ w) hget
theorem toUserData_tab (S : Nat) (idx : Int) (p : Option Addr) (w : World)
    (hget : Calls Tryz.prog 43 #[.pointer (some ⟨S, 0, none⟩), .int .i64 idx] w fun e w' => e = .returned (.iface 34 (.pointer p)) ∧ w = w') :
    Calls Tryz.prog 23 #[.pointer (some ⟨S, 0, none⟩), .int .i64 idx] w fun e w' => e = .returned (.pointer none) ∧ w = w' :=
  toUserData_no S idx _ _ _ w (asTAB_UD _ w) hget

set_option maxHeartbeats 400000 in
theorem toThread_yes (S : Nat) (idx : Int) (t : TypeId) (x : Value) (p : Option Addr) (w : World) (hta : (Instr.typeAssert (.iface t x) 44 25 true).run Tryz.prog w = .ok (.tuple #[.pointer p, .bool true]) w)
    (hget : Calls Tryz.prog 43 #[.pointer (some ⟨S, 0, none⟩), .int .i64 idx] w fun e w' => e = .returned (.iface t x) ∧ w = w') :
    Calls Tryz.prog 17 #[.pointer (some ⟨S, 0, none⟩), .int .i64 idx] w fun e w' => e = .returned (.pointer p) ∧ w = w' := by
  go_enter Tryz.func17, Tryz.ntmps17
  go_wp2_with fail
  refine hget.mono ?_
  rintro e w' ⟨rfl, rfl⟩
  go_wp2
  go_ret
  exact ⟨rfl, rfl⟩

set_option maxHeartbeats 400000 in
theorem toThread_no (S : Nat) (idx : Int) (t : TypeId) (x : Value) (y : Value) (w : World) (hta : (Instr.typeAssert (.iface t x) 44 25 true).run Tryz.prog w = .ok (.tuple #[y, .bool false]) w)
    (hget : Calls Tryz.prog 43 #[.pointer (some ⟨S, 0, none⟩), .int .i64 idx] w fun e w' => e = .returned (.iface t x) ∧ w = w') :
    Calls Tryz.prog 17 #[.pointer (some ⟨S, 0, none⟩), .int .i64 idx] w fun e w' => e = .returned (.pointer none) ∧ w = w' := by
  go_enter Tryz.func17, Tryz.ntmps17
  go_wp2_with fail
  refine hget.mono ?_
  rintro e w' ⟨rfl, rfl⟩
  go_wp2
  go_ret
  exact ⟨rfl, rfl⟩

theorem toThread_item (S : Nat) (idx : Int) (K ob : Nat) (x : Value) (w : World) (hK : K < 6)
    (hget : Calls Tryz.prog 43 #[.pointer (some ⟨S, 0, none⟩), .int .i64 idx] w fun e w' => e = .returned (item K ob x) ∧ w = w') :
    Calls Tryz.prog 17 #[.pointer (some ⟨S, 0, none⟩), .int .i64 idx] w fun e w' => e = .returned (.pointer (pick 5 K ob)) ∧ w = w' := by
  match K, hK with
  | 0, _ => exact toThread_no S idx _ _ _ w (asNUM_TH _ w) hget
  | 1, _ => exact toThread_no S idx _ _ _ w (asSTR_TH _ w) hget
  | 2, _ => exact toThread_no S idx _ _ _ w (asTAB_TH _ w) hget
  | 3, _ => exact toThread_no S idx _ _ _ w (asFN_TH _ w) hget
  | 4, _ => exact toThread_no S idx _ _ _ w (asUD_TH _ w) hget
  | 5, _ => exact toThread_yes S idx _ _ (some ⟨ob, 0, none⟩) w (asTH_TH _ w) hget
theorem toThread_nil (S : Nat) (idx : Int) (w : World)
    (hget : Calls Tryz.prog 43 #[.pointer (some ⟨S, 0, none⟩), .int .i64 idx] w fun e w' => e = .returned nilv ∧ w = w') :
    Calls Tryz.prog 17 #[.pointer (some ⟨S, 0, none⟩), .int .i64 idx] w fun e w' => e = .returned (.pointer none) ∧ w = w' :=
  toThread_no S idx _ _ _ w (asNIL_TH _ w) hget
theorem toThread_tab (S : Nat) (idx : Int) (p : Option Addr) (w : World)
    (hget : Calls Tryz.prog 43 #[.pointer (some ⟨S, 0, none⟩), .int .i64 idx] w fun e w' => e = .returned (.iface 34 (.pointer p)) ∧ w = w') :
    Calls Tryz.prog 17 #[.pointer (some ⟨S, 0, none⟩), .int .i64 idx] w fun e w' => e = .returned (.pointer none) ∧ w = w' :=
  toThread_no S idx _ _ _ w (asTAB_TH _ w) hget

end Go.Proofs.YtejhfhcndpehiaaGreatFmt
