/- The state round the stack: pushing a linked frame, reading a frame, walked. -/
import Derived.Test.YtnmjidkbaohliaaGreatFmtStk
import Derived.Deep.RegionWith
namespace Go.Proofs.YtnmjidkbaohliaaGreatFmt
open Go.RowKit
set_option maxRecDepth 100000
set_option maxHeartbeats 400000 in
theorem push_frame (S B A s : Nat) (fs : List Fr) (pc base nret : Int) (w : World) (hs : s + 1 < fs.length) (hk : fs.length ≤ 4096) (hAB : A ≠ B) (hS : Blk w S (stt B) 108) (hA : Blk w A (enc fs) 71) (hB : Blk w B (stk A fs.length ((s : Int) + 1)) 141) :
    Calls Tryz.prog 53 #[.pointer (some ⟨S, 0, none⟩), .int .i64 pc, .int .i64 base, .int .i64 nret] w fun e w' => e = .returned (.tuple #[]) ∧ Upd (fun b => b = A ∨ b = B) w w' ∧
      Blk w' A (enc (fs.set (s + 1) ⟨((s + 1 : Nat) : Int), some ⟨A, s * 10, none⟩, pc, base, nret⟩)) 71 ∧ Blk w' B (stk A fs.length ((s : Int) + 1 + 1)) 141 := by
  have h0 := hS.at (o := 14) rfl
  have HS := Lib.hid hS
  have HA := Lib.hid hA
  have HB := Lib.hid hB
  clear hS hA hB
  go_enter Tryz.func53, Tryz.ntmps53
  go_wp2
  go_region_with (first | (go_at_call 232; refine (stk_last B A fs.length s _ (by omega) hk (by exact HB.out)).mono ?_; rintro e w' ⟨rfl, n, rfl⟩) | (go_at_call 234; refine (stk_push B A (s + 1) fs ⟨0, some ⟨A, s * 10, none⟩, pc, base, nret⟩ _ hs hk hAB (by exact HA.out) (by exact HB.out)).mono ?_; rintro e w' ⟨rfl, hu, ha, hb⟩))
  all_goals
    go_end0
    exact ⟨rfl, ((Upd.refl _ _).drewN _).trans hu, ha, hb⟩
set_option maxHeartbeats 400000 in
theorem push_frame0 (S B A : Nat) (fs : List Fr) (pc base nret : Int) (w : World) (hs : 0 < fs.length) (hk : fs.length ≤ 4096) (hAB : A ≠ B) (hS : Blk w S (stt B) 108) (hA : Blk w A (enc fs) 71) (hB : Blk w B (stk A fs.length 0) 141) :
    Calls Tryz.prog 53 #[.pointer (some ⟨S, 0, none⟩), .int .i64 pc, .int .i64 base, .int .i64 nret] w fun e w' => e = .returned (.tuple #[]) ∧ Upd (fun b => b = A ∨ b = B) w w' ∧
      Blk w' A (enc (fs.set 0 ⟨0, none, pc, base, nret⟩)) 71 ∧ Blk w' B (stk A fs.length 1) 141 := by
  have h0 := hS.at (o := 14) rfl
  have HS := Lib.hid hS
  have HA := Lib.hid hA
  have HB := Lib.hid hB
  clear hS hA hB
  go_enter Tryz.func53, Tryz.ntmps53
  go_wp2
  go_region_with (first | (go_at_call 232; refine (stk_last0 B A fs.length _ (by exact HB.out)).mono ?_; rintro e w' ⟨rfl, n, rfl⟩) | (go_at_call 234; refine (stk_push B A 0 fs ⟨0, none, pc, base, nret⟩ _ hs hk hAB (by exact HA.out) (by exact HB.out)).mono ?_; rintro e w' ⟨rfl, hu, ha, hb⟩))
  all_goals
    go_end0
    exact ⟨rfl, ((Upd.refl _ _).drewN _).trans hu, ha, hb⟩

set_option maxHeartbeats 400000 in
theorem frame_at (S B A k i : Nat) (sp : Int) (w : World) (hi : i < k) (hS : Blk w S (stt B) 108) (hB : Blk w B (stk A k sp) 141) :
    Calls Tryz.prog 31 #[.pointer (some ⟨S, 0, none⟩), .int .i64 i] w fun e w' => e = .returned (.pointer (some ⟨A, i * 10, none⟩)) ∧ w' = w := by
  have h0 := hS.at (o := 14) rfl
  have HB := Lib.hid hB
  clear hS hB
  go_enter Tryz.func31, Tryz.ntmps31
  go_wp2_with (go_at_call 227; refine (stk_at B A k i sp _ hi (by exact HB.out)).mono ?_; rintro e w' ⟨rfl, rfl⟩)
  go_ret
  exact ⟨rfl, rfl⟩

set_option maxHeartbeats 400000 in
theorem sp_of (S B A k : Nat) (sp : Int) (w : World) (hS : Blk w S (stt B) 108) (hB : Blk w B (stk A k sp) 141) :
    Calls Tryz.prog 30 #[.pointer (some ⟨S, 0, none⟩)] w fun e w' => e = .returned (.int .i64 sp) ∧ w' = w := by
  have h0 := hS.at (o := 14) rfl
  have HB := Lib.hid hB
  clear hS hB
  go_enter Tryz.func30, Tryz.ntmps30
  go_wp2_with (go_at_call 236; refine (stk_sp B A k sp _ (by exact HB.out)).mono ?_; rintro e w' ⟨rfl, rfl⟩)
  go_ret
  exact ⟨rfl, rfl⟩
end Go.Proofs.YtnmjidkbaohliaaGreatFmt
