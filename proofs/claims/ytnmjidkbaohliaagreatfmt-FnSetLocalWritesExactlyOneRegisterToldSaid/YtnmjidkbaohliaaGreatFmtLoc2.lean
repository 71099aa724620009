/- The registers: made, set, read, counted: walked. -/
import Derived.Test.YtnmjidkbaohliaaGreatFmtLoc1
namespace Go.Proofs.YtnmjidkbaohliaaGreatFmt
open Go.RowKit
set_option maxRecDepth 100000

/-- The registry's count behind a store at i. -/
def raise (top i : Nat) : Nat := if top ≤ i then i + 1 else top
/-- The cells of the registry's own struct. -/
def rgs (R n : Nat) (top : Nat) : List Value := [.slice (some ⟨R, 0, none⟩) n n, .int .i64 top, .int .i64 0, .int .i64 n, .pointer none, .nilIface]

theorem mk45 (k : Nat) (hk : k ≤ 1048576) (w : World) : (Instr.makeSlice 45 (.int .i64 (k : Int)) (.int .i64 (k : Int))).run Tryz.prog w = .ok (.slice (some ⟨w.heap.size, 0, none⟩) k k) (w.alloc (.cells (tab k fun _ => Value.nilIface).toArray 56)) := by
  have h := run_made (P := Tryz.prog) 45 56 .nilIface 16 Tryz.underlying45 (by kernel_rfl) (by decide) k (by omega) (by omega) w
  rw [show ((List.replicate k Value.nilIface.cells.toList).flatten) = tab k fun _ => Value.nilIface by
    rw [← tab_rep]; show (List.replicate k [Value.nilIface]).flatten = _; simp] at h
  exact h

set_option maxHeartbeats 400000 in
theorem new_reg (n : Nat) (w : World) (hn : n ≤ 65536) :
    Calls Tryz.prog 57 #[.int .i64 n] w fun e w' => e = .returned (.pointer (some ⟨w.heap.size + 1, 0, none⟩)) ∧ Upd (fun _ => False) w w' ∧ w'.heap.size = w.heap.size + 2 ∧ Blk w' w.heap.size (tab n fun _ => Value.nilIface) 56 ∧ Blk w' (w.heap.size + 1) (rgs w.heap.size n 0) 136 := by
  have hm := mk45 n (by omega)
  go_enter Tryz.func57, Tryz.ntmps57
  go_wp2
  go_ret
  exact ⟨rfl, ((Upd.refl _ _).alloc _).alloc _, by simp, (Blk.new _ _ _).alloc _, Blk.new_at (by simp) (rgs w.heap.size n 0) 136⟩

theorem reg_set_cells (n i : Nat) (f : Nat → Value) (v : Value) : (tab n f).set i v = tab n (fun m => if m = i then v else f m) := tab_set n f i v

set_option maxHeartbeats 400000 in
theorem reg_set (G R n i top : Nat) (t : TypeId) (x : Value) (f : Nat → Value) (w : World) (hi : i < n) (hn : n ≤ 65536) (hGR : G ≠ R) (hG : Blk w G (rgs R n top) 136) (hR : Blk w R (tab n f) 56) :
    Calls Tryz.prog 61 #[.pointer (some ⟨G, 0, none⟩), .int .i64 i, .iface t x] w fun e w' => e = .returned (.tuple #[]) ∧ Upd (fun c => c = G ∨ c = R) w w' ∧ Blk w' G (rgs R n (raise top i)) 136 ∧ Blk w' R (tab n (fun m => if m = i then .iface t x else f m)) 56 := by
  have g0 := hG.at (o := 0) rfl
  have g1 := hG.at (o := 1) rfl
  have gf := hG.free 1
  have r := hR.at (tab_in hi)
  have rf := hR.free i
  have HG := Lib.hid hG
  have HR := Lib.hid hR
  clear hG hR
  by_cases ht : top ≤ i
  · go_enter Tryz.func61, Tryz.ntmps61
    go_wp2
    go_end0
    refine ⟨rfl, ((Upd.refl _ _).setCell _ _ (.inl (.inr rfl))).setCell _ _ (.inl (.inl rfl)), ?_, ?_⟩
    · rw [raise, if_pos ht]
      exact (HG.out.set_other _ _ hGR).set 1 _
    · rw [← tab_set]
      exact (HR.out.set i _).set_other _ _ (Ne.symm hGR)
  · go_enter Tryz.func61, Tryz.ntmps61
    go_wp2
    go_end0
    refine ⟨rfl, (Upd.refl _ _).setCell _ _ (.inl (.inr rfl)), ?_, ?_⟩
    · rw [raise, if_neg ht]
      exact HG.out.set_other _ _ hGR
    · rw [← tab_set]
      exact HR.out.set i _

set_option maxHeartbeats 400000 in
theorem reg_set_number (G R n i top y : Nat) (f : Nat → Value) (w : World) (hi : i < n) (hn : n ≤ 65536) (hGR : G ≠ R) (hG : Blk w G (rgs R n top) 136) (hR : Blk w R (tab n f) 56) :
    Calls Tryz.prog 58 #[.pointer (some ⟨G, 0, none⟩), .int .i64 i, .float .f64 y] w fun e w' => e = .returned (.tuple #[]) ∧ Upd (fun c => c = G ∨ c = R) w w' ∧ Blk w' G (rgs R n (raise top i)) 136 ∧ Blk w' R (tab n (fun m => if m = i then .iface 96 (.float .f64 y) else f m)) 56 := by
  have HG := Lib.hid hG
  have HR := Lib.hid hR
  clear hG hR
  go_enter Tryz.func58, Tryz.ntmps58
  go_wp2_with fail
  refine (reg_set G R n i top 96 (.float .f64 y) f _ hi hn hGR HG.out HR.out).mono ?_
  rintro e w' ⟨rfl, h⟩
  have H := Lib.hid h
  clear h
  go_wp2
  go_end0
  exact ⟨rfl, H.out⟩

set_option maxHeartbeats 400000 in
theorem reg_top69 (G R n top : Nat) (w : World) (hG : Blk w G (rgs R n top) 136) :
    Calls Tryz.prog 69 #[.pointer (some ⟨G, 0, none⟩)] w fun e w' => e = .returned (.int .i64 top) ∧ w = w' := by
  have g1 := hG.at (o := 1) rfl
  clear hG
  go_enter Tryz.func69, Tryz.ntmps69
  go_wp2
  go_ret
  exact ⟨rfl, rfl⟩

set_option maxHeartbeats 400000 in
theorem reg_top (G R n top : Nat) (w : World) (hG : Blk w G (rgs R n top) 136) :
    Calls Tryz.prog 63 #[.pointer (some ⟨G, 0, none⟩)] w fun e w' => e = .returned (.int .i64 top) ∧ w = w' := by
  have HG := Lib.hid hG
  clear hG
  go_enter Tryz.func63, Tryz.ntmps63
  go_wp2_with fail
  refine (reg_top69 G R n top _ HG.out).mono ?_
  rintro e w' ⟨rfl, rfl⟩
  go_wp2
  go_ret
  exact ⟨rfl, rfl⟩

set_option maxHeartbeats 400000 in
theorem reg_get65 (G R n i top : Nat) (f : Nat → Value) (w : World) (hi : i < n) (_hn : n ≤ 65536) (hG : Blk w G (rgs R n top) 136) (hR : Blk w R (tab n f) 56) :
    Calls Tryz.prog 65 #[.pointer (some ⟨G, 0, none⟩), .int .i64 i] w fun e w' => e = .returned (f i) ∧ w = w' := by
  have g0 := hG.at (o := 0) rfl
  have r := hR.at (tab_in hi)
  clear hG hR
  go_enter Tryz.func65, Tryz.ntmps65
  go_wp2
  go_ret
  exact ⟨rfl, rfl⟩

set_option maxHeartbeats 400000 in
theorem reg_get (G R n i top : Nat) (f : Nat → Value) (w : World) (hi : i < n) (hn : n ≤ 65536) (hG : Blk w G (rgs R n top) 136) (hR : Blk w R (tab n f) 56) :
    Calls Tryz.prog 64 #[.pointer (some ⟨G, 0, none⟩), .int .i64 i] w fun e w' => e = .returned (f i) ∧ w = w' := by
  have HG := Lib.hid hG
  have HR := Lib.hid hR
  clear hG hR
  go_enter Tryz.func64, Tryz.ntmps64
  go_wp2_with fail
  refine (reg_get65 G R n i top f _ hi hn HG.out HR.out).mono ?_
  rintro e w' ⟨rfl, rfl⟩
  go_wp2
  go_ret
  exact ⟨rfl, rfl⟩

/-- A state that holds a stack, a frame and registers. -/
def sts (B G : Nat) (cur : Option Addr) : List Value := [.pointer none, .pointer none, .pointer none, .nilFunc, .bool false, .int .i64 0, .int .i64 0, .int .i64 0, .int .i64 0, .bool false, .bool false, .bool false, .int .i32 0, .pointer (some ⟨G, 0, none⟩), .iface 117 (.pointer (some ⟨B, 0, none⟩)), .pointer none, .pointer cur, .bool false, .pointer none, .bool false, .nilFunc]

set_option maxHeartbeats 400000 in
theorem new_sts (B G : Nat) (cur : Option Addr) (w : World) :
    Calls Tryz.prog 59 #[.pointer (some ⟨B, 0, none⟩), .pointer cur, .pointer (some ⟨G, 0, none⟩)] w fun e w' => e = .returned (.pointer (some ⟨w.heap.size, 0, none⟩)) ∧ Upd (fun _ => False) w w' ∧ w'.heap.size = w.heap.size + 1 ∧ Blk w' w.heap.size (sts B G cur) 108 := by
  go_enter Tryz.func59, Tryz.ntmps59
  go_wp2
  go_ret
  exact ⟨rfl, (Upd.refl _ _).alloc _, by simp, Blk.new w (sts B G cur) 108⟩

set_option maxHeartbeats 400000 in
theorem sts_reg (S B G : Nat) (cur : Option Addr) (w : World) (hS : Blk w S (sts B G cur) 108) :
    Calls Tryz.prog 62 #[.pointer (some ⟨S, 0, none⟩)] w fun e w' => e = .returned (.pointer (some ⟨G, 0, none⟩)) ∧ w = w' := by
  have h := hS.at (o := 13) rfl
  clear hS
  go_enter Tryz.func62, Tryz.ntmps62
  go_wp2
  go_ret
  exact ⟨rfl, rfl⟩

set_option maxHeartbeats 400000 in
theorem new_stack (k : Nat) (w : World) (hk : k ≤ 4096) :
    Calls Tryz.prog 54 #[.int .i64 k] w fun e w' => e = .returned (.pointer (some ⟨w.heap.size + 1, 0, none⟩)) ∧ Upd (fun _ => False) w w' ∧ w'.heap.size = w.heap.size + 2 ∧ Blk w' w.heap.size (rws k fun _ => Fr.zero.cells) 71 ∧ Blk w' (w.heap.size + 1) (stk w.heap.size k k) 141 := by
  have hm := mk139 k hk
  have e : enc (List.replicate k Fr.zero) = rws k fun _ => Fr.zero.cells := by
    unfold enc rws
    rw [List.flatMap_def, List.map_replicate, tab_rep]
  rw [e] at hm
  clear e
  go_enter Tryz.func54, Tryz.ntmps54
  go_wp2
  go_ret
  exact ⟨rfl, ((Upd.refl _ _).alloc _).alloc _, by simp, (Blk.new _ _ _).alloc _, Blk.new_at (by simp) (stk w.heap.size k k) 141⟩
end Go.Proofs.YtnmjidkbaohliaaGreatFmt
