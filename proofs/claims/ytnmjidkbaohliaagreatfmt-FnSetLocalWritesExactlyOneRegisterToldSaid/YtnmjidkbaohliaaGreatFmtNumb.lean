/- A bare state and numbers to and fro, walked. -/
import Derived.Test.YtnmjidkbaohliaaGreatFmtShrOut
namespace Go.Proofs.YtnmjidkbaohliaaGreatFmt
open Go.RowKit
set_option maxRecDepth 100000

set_option maxHeartbeats 400000 in
theorem bare20 (w : World) : Calls Tryz.prog 20 #[] w fun e w' => e = .returned (.pointer (some ⟨w.heap.size, 0, none⟩)) ∧ Upd (fun _ => False) w w' := by
  go_enter Tryz.func20, Tryz.ntmps20
  go_wp2
  go_ret
  exact ⟨rfl, (Upd.refl _ _).alloc _⟩

set_option maxHeartbeats 400000 in
theorem number22 (y : Nat) (w : World) : Calls Tryz.prog 22 #[.float .f64 y] w fun e w' => e = .returned (.iface 96 (.float .f64 y)) ∧ w = w' := by
  go_enter Tryz.func22, Tryz.ntmps22
  go_wp2
  go_ret
  exact ⟨rfl, rfl⟩

@[go_sem] theorem as96 (y : Nat) (w : World) : (Instr.typeAssert (.iface 96 (.float .f64 y)) 56 96 true).run Tryz.prog w = .ok (.tuple #[.float .f64 y, .bool true]) w := by kernel_rfl

set_option maxHeartbeats 400000 in
theorem number24 (y : Nat) (w : World) : Calls Tryz.prog 24 #[.iface 96 (.float .f64 y)] w fun e w' => e = .returned (.tuple #[.float .f64 y, .bool true]) ∧ w = w' := by
  go_enter Tryz.func24, Tryz.ntmps24
  go_wp2
  go_ret2
  exact ⟨rfl, rfl⟩
end Go.Proofs.YtnmjidkbaohliaaGreatFmt
