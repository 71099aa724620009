/- Upvalue cells and the two methods that read and write them through a closure, walked. -/
import Derived.Test.YtejhfhcndpehiaaGreatFmtClones
namespace Go.Proofs.YtejhfhcndpehiaaGreatFmt
open Go.RowKit
set_option maxRecDepth 100000

/-- An upvalue that stands for itself. -/
def upv (v : Value) (cl : Bool) : List Value := [.pointer none, .pointer none, .int .i64 0, v, .bool cl]
/-- A function's cells. -/
def fnc (g : Bool) (P : Option Addr) (u : Option Addr) (k c : Nat) : List Value := [.bool g, .pointer none, .pointer P, .nilFunc, .slice u k c]
/-- A prototype that bears nothing but its upvalues' names. -/
def proto (a : Option Addr) (k c : Nat) : List Value := [.string ByteArray.empty, .int .i64 0, .int .i64 0, .int .u8 0, .int .u8 0, .int .u8 0, .int .u8 0, .slice none 0 0, .slice none 0 0, .slice none 0 0, .slice none 0 0, .slice none 0 0, .slice none 0 0, .slice a k c, .slice none 0 0]

@[go_sem] theorem eq102 (w : World) : (binOp .eql 55 (.pointer none) (.pointer none)).run Tryz.prog w = .ok (.bool true) w := by kernel_rfl

set_option maxHeartbeats 400000 in
theorem uv_value (b : Nat) (v : Value) (cl : Bool) (w : World) (hb : Blk w b (upv v cl) 104) :
    Calls Tryz.prog 37 #[.pointer (some ⟨b, 0, none⟩)] w fun e w' => e = .returned v ∧ w' = w := by
  have h1 := hb.at (o := 1) rfl
  have h3 := hb.at (o := 3) rfl
  have h4 := hb.at (o := 4) rfl
  clear hb
  cases cl
  all_goals
    go_enter Tryz.func37, Tryz.ntmps37
    go_wp2
    go_ret
    exact ⟨rfl, rfl⟩

set_option maxHeartbeats 400000 in
theorem uv_set (b : Nat) (v : Value) (cl : Bool) (t : TypeId) (x : Value) (w : World) (hb : Blk w b (upv v cl) 104) :
    Calls Tryz.prog 46 #[.pointer (some ⟨b, 0, none⟩), .iface t x] w fun e w' => e = .returned (.tuple #[]) ∧ Upd (fun c => c = b) w w' ∧ w'.heap.size = w.heap.size ∧ Blk w' b (upv (.iface t x) cl) 104 := by
  have h1 := hb.at (o := 1) rfl
  have h3 := hb.at (o := 3) rfl
  have h4 := hb.at (o := 4) rfl
  have hf := hb.free 3
  have HB := Lib.hid hb
  clear hb
  cases cl
  all_goals
    go_enter Tryz.func46, Tryz.ntmps46
    go_wp2
    go_end0
    exact ⟨rfl, Upd.setCell (S := fun c => c = b) (Upd.refl _ _) ⟨b, 3, none⟩ _ (Or.inl rfl), World.size_setCell _ _ _, HB.out.set 3 _⟩

set_option maxHeartbeats 800000 in
theorem set_upvalue_in (F P U k cU cN N : Nat) (g : Option Addr) (bx : Nat → Nat) (s : Nat → ByteArray) (m : Nat) (v : Value) (cl : Bool) (t : TypeId) (x : Value) (w : World) (hk : k ≤ 1048576) (hm : m < k)
    (hF : Blk w F (fnc false (some ⟨P, 0, none⟩) (some ⟨U, 0, none⟩) k cU) 81) (hU : Blk w U (tab k fun j => Value.pointer (some ⟨bx j, 0, none⟩)) 60) (hb : Blk w (bx m) (upv v cl) 104)
    (hP : Blk w P (proto (some ⟨N, 0, none⟩) k cN) 92) (hN : Blk w N (tab k fun j => Value.string (s j)) 9) (hd : F ≠ bx m ∧ P ≠ bx m ∧ N ≠ bx m) :
    Calls Tryz.prog 35 #[.pointer g, .pointer (some ⟨F, 0, none⟩), .int .i64 ((m : Int) + 1), .iface t x] w fun e w' => e = .returned (.string (s m)) ∧ Upd (fun c => c = bx m) w w' ∧ Blk w' (bx m) (upv (.iface t x) cl) 104 := by
  have f0 := hF.at (o := 0) rfl
  have f4 := hF.at (o := 4) rfl
  have u := hU.at (tab_in hm)
  have HF := Lib.hid hF
  have HP := Lib.hid hP
  have HN := Lib.hid hN
  have HB := Lib.hid hb
  have HD := Lib.hid hd
  clear hF hU hP hN hb hd
  go_enter Tryz.func35, Tryz.ntmps35
  go_wp2_with fail
  refine (uv_set (bx m) v cl t x _ (by exact HB.out)).mono ?_
  rintro e w1 ⟨rfl, hu, _, hb⟩
  have HU := Lib.hid hu
  have HB1 := Lib.hid hb
  have f2 := (hu.blk HF.out HD.out.1).at (o := 2) rfl
  have p13 := (hu.blk HP.out HD.out.2.1).at (o := 13) rfl
  have n := (hu.blk HN.out HD.out.2.2).at (tab_in hm)
  clear hu hb f0 f4 u
  go_wp2
  go_ret
  exact ⟨rfl, HU.out, HB1.out⟩

theorem wrap_least : wrap64 (-9223372036854775809) = 9223372036854775807 := by unfold wrap64; omega

set_option maxHeartbeats 800000 in
theorem set_upvalue_out (F k cU : Nat) (P g u : Option Addr) (no : Int) (t : TypeId) (x : Value) (w : World) (h1 : -9223372036854775808 ≤ no) (hno : no < 1 ∨ (k : Int) < no) (hk : k ≤ 1048576) (hn : no ≤ 9223372036854775807)
    (hF : Blk w F (fnc false P u k cU) 81) :
    Calls Tryz.prog 35 #[.pointer g, .pointer (some ⟨F, 0, none⟩), .int .i64 no, .iface t x] w fun e w' => e = .returned (.string ByteArray.empty) ∧ w' = w := by
  have f0 := hF.at (o := 0) rfl
  have f4 := hF.at (o := 4) rfl
  clear hF
  by_cases h0 : no = -9223372036854775808
  · subst h0
    clear h1 hn hno
    go_enter Tryz.func35, Tryz.ntmps35
    go_wp2
    all_goals (first | (go_ret; exact ⟨rfl, rfl⟩) | (exfalso; have e := wrap_least; omega))
  · rcases hno with hno | hno
    all_goals
      go_enter Tryz.func35, Tryz.ntmps35
      go_wp2
      go_ret
      exact ⟨rfl, rfl⟩

set_option maxHeartbeats 800000 in
theorem get_upvalue_in (F P U k cU cN N : Nat) (g : Option Addr) (bx : Nat → Nat) (s : Nat → ByteArray) (m : Nat) (v : Value) (cl : Bool) (w : World) (hk : k ≤ 1048576) (hm : m < k)
    (hF : Blk w F (fnc false (some ⟨P, 0, none⟩) (some ⟨U, 0, none⟩) k cU) 81) (hU : Blk w U (tab k fun j => Value.pointer (some ⟨bx j, 0, none⟩)) 60) (hb : Blk w (bx m) (upv v cl) 104)
    (hP : Blk w P (proto (some ⟨N, 0, none⟩) k cN) 92) (hN : Blk w N (tab k fun j => Value.string (s j)) 9) :
    Calls Tryz.prog 38 #[.pointer g, .pointer (some ⟨F, 0, none⟩), .int .i64 ((m : Int) + 1)] w fun e w' => e = .returned (.tuple #[.string (s m), v]) ∧ ∃ n, w' = w.drewN n := by
  have f0 := hF.at (o := 0) rfl
  have f2 := hF.at (o := 2) rfl
  have f4 := hF.at (o := 4) rfl
  have u := hU.at (tab_in hm)
  have p13 := hP.at (o := 13) rfl
  have n := hN.at (tab_in hm)
  have HB := Lib.hid hb
  clear hF hU hP hN hb
  go_enter Tryz.func38, Tryz.ntmps38
  go_wp2
  go_quiet ((go_at_call 37; exact Calls.quiet_of_same (uv_value (bx m) v cl _ (by exact HB.out))))
  go_wp2
  go_ret2
  exact ⟨rfl, _, rfl⟩
end Go.Proofs.YtejhfhcndpehiaaGreatFmt
