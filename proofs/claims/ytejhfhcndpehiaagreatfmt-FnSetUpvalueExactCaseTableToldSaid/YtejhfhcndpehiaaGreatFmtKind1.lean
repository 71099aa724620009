/- A bare state, its registers: made, pushed to, read at an index: walked. -/
import Derived.Test.YtejhfhcndpehiaaGreatFmtFacts
import Derived.Test.YtejhfhcndpehiaaGreatFmtHeapy
import Derived.WideLaws
import Derived.Laws.Cover2
import Derived.LaidEqlPtr
import Derived.Lib.Hide
import Derived.Deep.LoopGhost
import Derived.RegionTactic
import Derived.BigRegion
namespace Go.Proofs.YtejhfhcndpehiaaGreatFmt
open Go.RowKit
set_option maxRecDepth 100000

/-- The elements that a slice shows. -/
def Cells (w : World) (a : Option Addr) (k : Nat) (f : Nat → Value) : Prop := ∀ j, j < k → ∃ x, a = some x ∧ w.cell? (x.add j) = some (f j)
theorem Cells.upd {w w' : World} {a : Option Addr} {k : Nat} {f : Nat → Value} (h : Cells w a k f) (hu : Upd (fun _ => False) w w') : Cells w' a k f := fun j hj => by
  obtain ⟨x, hx, hc⟩ := h j hj
  exact ⟨x, hx, by rw [← hc]; exact World.cell?_of_block (hu.block _ (World.block_lt_of_cell? w _ hc) (fun h => h))⟩
theorem Cells.of_blk {w : World} {a : Option Addr} {k b : Nat} {f : Nat → Value} {t : TypeId} (h : 0 < k → a = some ⟨b, 0, none⟩ ∧ Blk w b (tab k f) t) : Cells w a k f := fun j hj => by
  obtain ⟨ha, hb⟩ := h (by omega)
  exact ⟨_, ha, by rw [Addr.add_mid, Nat.zero_add]; exact hb.at (tab_in hj)⟩
/-- An element that a slice shows, with its address taken apart. -/
theorem Cells.one {w : World} {a : Option Addr} {k : Nat} {f : Nat → Value} (h : Cells w a k f) {j : Nat} (hj : j < k) : ∃ b off, a = some ⟨b, off, none⟩ ∧ w.cell? ⟨b, off + j, none⟩ = some (f j) := by
  obtain ⟨x, hx, hc⟩ := h j hj
  obtain ⟨y, hy, hc0⟩ := h 0 (by omega)
  obtain rfl : x = y := Option.some.inj (hx.symm.trans hy)
  obtain ⟨b, off, spot⟩ := x
  obtain rfl : spot = none := World.cell?_spot hc0
  exact ⟨b, off, hx, by rw [← Addr.add_mid]; exact hc⟩

/-- An empty table's cells. -/
def tab0 : List Value := [.nilIface, .slice none 0 0, .map none, .map none, .slice none 0 0, .map none]
/-- What the states share. -/
def glob (r g : Nat) : List Value := [.pointer none, .pointer none, .pointer (some ⟨r, 0, none⟩), .pointer (some ⟨g, 0, none⟩), .map none, .pointer none, .nilFunc, .int .i32 0]
/-- The cells of the registry's own struct. -/
def regs (A n top : Nat) : List Value := [.slice (some ⟨A, 0, none⟩) n n, .int .i64 top, .int .i64 0, .int .i64 n, .pointer none, .nilIface]
/-- A state with no running function. -/
def sta (G E R : Nat) : List Value := [.pointer (some ⟨G, 0, none⟩), .pointer none, .pointer (some ⟨E, 0, none⟩), .nilFunc, .bool false, .int .i64 0, .int .i64 0, .int .i64 0, .int .i64 0, .bool false, .bool false, .bool false, .int .i32 0, .pointer (some ⟨R, 0, none⟩), .nilIface, .pointer none, .pointer none, .bool false, .pointer none, .bool false, .nilFunc]

theorem mkLV (k : Nat) (hk : k ≤ 1048576) (w : World) : (Instr.makeSlice 45 (.int .i64 (k : Int)) (.int .i64 (k : Int))).run Tryz.prog w = .ok (.slice (some ⟨w.heap.size, 0, none⟩) k k) (w.alloc (.cells (tab k fun _ => Value.nilIface).toArray 44)) := by
  have h := run_made (P := Tryz.prog) 45 44 .nilIface 16 Tryz.underlying45 (by kernel_rfl) (by decide) k (by omega) (by omega) w
  rw [show ((List.replicate k Value.nilIface.cells.toList).flatten) = tab k fun _ => Value.nilIface by
    rw [← tab_rep]; show (List.replicate k [Value.nilIface]).flatten = _; simp] at h
  exact h

/-- A state with its registers (top of them in use), what it shares, its tables. -/
structure Sta (w : World) (S G R A RT GT E n top : Nat) (v : Nat → Value) : Prop where
  ord : G < A ∧ A < R ∧ R < S
  st : Blk w S (sta G E R) 63
  g : Blk w G (glob RT GT) 67
  rg : Blk w R (regs A n top) 111
  ar : Blk w A (tab n v) 44

theorem Sta.upd {w w' : World} {S G R A RT GT E n top : Nat} {v : Nat → Value} (h : Sta w S G R A RT GT E n top v) {T : Nat → Prop} (hu : Upd T w w') (hT : ∀ c, T c → S < c) : Sta w' S G R A RT GT E n top v := by
  have o := h.ord
  exact ⟨h.ord, hu.blk h.st (fun t => by have := hT _ t; omega), hu.blk h.g (fun t => by have := hT _ t; omega), hu.blk h.rg (fun t => by have := hT _ t; omega), hu.blk h.ar (fun t => by have := hT _ t; omega)⟩

set_option maxHeartbeats 400000 in
theorem new_state (n : Nat) (w : World) (hn : n ≤ 65536) :
    Calls Tryz.prog 41 #[.int .i64 n] w fun e w' => e = .returned (.pointer (some ⟨w.heap.size + 5, 0, none⟩)) ∧ Upd (fun _ => False) w w' ∧ w'.heap.size = w.heap.size + 6 ∧
      Sta w' (w.heap.size + 5) (w.heap.size + 2) (w.heap.size + 4) (w.heap.size + 3) w.heap.size (w.heap.size + 1) (w.heap.size + 1) n 0 (fun _ => .nilIface) := by
  have hm := mkLV n (by omega)
  go_enter Tryz.func41, Tryz.ntmps41
  go_wp2
  have UP0 : Upd (fun _ => False) w (((w.alloc (.cells tab0.toArray 50)).alloc (.cells tab0.toArray 50)).alloc (.cells (glob w.heap.size (w.heap.size + 1)).toArray 67)) := (((Upd.refl _ _).alloc _).alloc _).alloc _
  have hG0 : Blk (((w.alloc (.cells tab0.toArray 50)).alloc (.cells tab0.toArray 50)).alloc (.cells (glob w.heap.size (w.heap.size + 1)).toArray 67)) (w.heap.size + 2) (glob w.heap.size (w.heap.size + 1)) 67 := Blk.new_at (by simp) _ _
  have hz0 : (((w.alloc (.cells tab0.toArray 50)).alloc (.cells tab0.toArray 50)).alloc (.cells (glob w.heap.size (w.heap.size + 1)).toArray 67)).heap.size = w.heap.size + 3 := by simp
  obtain ⟨W1, hW1⟩ : ∃ W1, (((w.alloc (.cells tab0.toArray 50)).alloc (.cells tab0.toArray 50)).alloc (.cells (glob w.heap.size (w.heap.size + 1)).toArray 67)) = W1 := ⟨_, rfl⟩
  rw [hW1] at UP0 hG0 hz0
  change Code.wp _ _ _ _ (((w.alloc (.cells tab0.toArray 50)).alloc (.cells tab0.toArray 50)).alloc (.cells (glob w.heap.size (w.heap.size + 1)).toArray 67))
  rw [hW1]
  have UP := Lib.hid UP0
  have HG := Lib.hid hG0
  have HZ := Lib.hid hz0
  have g3 : W1.cell? ⟨w.heap.size + 1 + 1, 3, none⟩ = some (.pointer (some ⟨w.heap.size + 1, 0, none⟩)) := hG0.at (o := 3) rfl
  have g31 := (hG0.alloc (.cells (tab n fun _ => Value.nilIface).toArray 44)).at (o := 3) rfl
  have g32 : ((W1.alloc (.cells (tab n fun _ => Value.nilIface).toArray 44)).alloc (.cells #[.slice (some ⟨W1.heap.size, 0, none⟩) n n, .int .i64 0, .int .i64 0, .int .i64 n, .pointer none, .nilIface] 111)).cell? ⟨w.heap.size + 1 + 1, 3, none⟩ = some (.pointer (some ⟨w.heap.size + 1, 0, none⟩)) :=
    ((hG0.alloc (.cells (tab n fun _ => Value.nilIface).toArray 44)).alloc (.cells (regs W1.heap.size n 0).toArray 111)).at (o := 3) rfl
  rw [show w.heap.size + 2 = w.heap.size + 1 + 1 from rfl] at g31
  clear hW1 hz0 hG0 UP0
  go_region
  go_wp2
  go_ret
  have z := HZ.out
  have e1 : w.heap.size + 3 = W1.heap.size := z.symm
  refine ⟨by show Ending.returned (.pointer (some ⟨W1.heap.size + 1 + 1, 0, none⟩)) = _; rw [z], (((UP.out.alloc _).alloc _).alloc _).drew, by show (World.alloc _ _).heap.size = _; simp [z], by omega, ?_, ?_, ?_, ?_⟩
  · have h := Blk.new_at (w := (W1.alloc (.cells (tab n fun _ => Value.nilIface).toArray 44)).alloc (.cells (regs W1.heap.size n 0).toArray 111)) (b := w.heap.size + 5) (by simp [z]) (sta (w.heap.size + 2) (w.heap.size + 1) (W1.heap.size + 1)) 63
    rw [show w.heap.size + 4 = W1.heap.size + 1 by omega]
    exact h
  · exact ((HG.out.alloc _).alloc _).alloc _
  · have h := Blk.new_at (w := W1.alloc (.cells (tab n fun _ => Value.nilIface).toArray 44)) (b := w.heap.size + 4) (by simp [z]) (regs W1.heap.size n 0) 111
    rw [e1]
    exact h.alloc _
  · rw [e1]
    exact ((Blk.new _ _ _).alloc _).alloc _

set_option maxHeartbeats 400000 in
theorem reg_push (S G R A RT GT E n top : Nat) (t : TypeId) (x : Value) (f : Nat → Value) (w : World) (hi : top < n) (hn : n ≤ 65536) (h : Sta w S G R A RT GT E n top f) :
    Calls Tryz.prog 47 #[.pointer (some ⟨R, 0, none⟩), .iface t x] w fun e w' => e = .returned (.tuple #[]) ∧ Upd (fun c => c = R ∨ c = A) w w' ∧ Sta w' S G R A RT GT E n (top + 1) (fun m => if m = top then .iface t x else f m) := by
  have g0 := h.rg.at (o := 0) rfl
  have g1 := h.rg.at (o := 1) rfl
  have d1 : decide ((n : Int) < (top : Int) + 1) = false := decide_eq_false (by omega)
  have H := Lib.hid h
  clear h
  go_enter Tryz.func47, Tryz.ntmps47
  go_wp2
  refine wp_region_tail_at 10 (by kernel_rfl) (by kernel_rfl) (fun W1 hW1 => ?_)
  have UP := Lib.hid (show Upd (fun c => c = R ∨ c = A) w W1 by rw [hW1]; exact (Upd.refl _ _).drew)
  have H1 := Lib.hid (show Sta W1 S G R A RT GT E n top f by rw [hW1]; exact ⟨H.out.ord, H.out.st, H.out.g, H.out.rg, H.out.ar⟩)
  clear hW1 H g0 g1
  have g0 := H1.out.rg.at (o := 0) rfl
  have g1 := H1.out.rg.at (o := 1) rfl
  have gf := H1.out.rg.free 1
  have r := H1.out.ar.at (tab_in hi)
  have rf := H1.out.ar.free top
  have i1 : (0 : Int) ≤ (top : Int) := by omega
  have i2 : (top : Int) < (n : Int) := by omega
  have hRA : R ≠ A := by have := H1.out.ord; omega
  simp only [List.take_succ_cons, List.take_zero, List.drop_succ_cons, List.drop_zero]
  repeat still_step
  refine wpStill_nil ?_
  go_wp2
  go_end0
  have o := H1.out.ord
  refine ⟨rfl, (UP.out.setCell _ _ (.inl (.inr rfl))).setCell _ _ (.inl (.inl rfl)), o, ?_, ?_, ?_, ?_⟩
  · exact (H1.out.st.set_other _ _ (by show S ≠ A; omega)).set_other _ _ (by show S ≠ R; omega)
  · exact (H1.out.g.set_other _ _ (by show G ≠ A; omega)).set_other _ _ (by show G ≠ R; omega)
  · exact (H1.out.rg.set_other _ _ (by show R ≠ A; omega)).set 1 _
  · rw [← tab_set]
    exact (H1.out.ar.set top _).set_other _ _ (by show A ≠ R; omega)

set_option maxHeartbeats 400000 in
theorem st_push (S G R A RT GT E n top : Nat) (t : TypeId) (x : Value) (f : Nat → Value) (w : World) (hi : top < n) (hn : n ≤ 65536) (h : Sta w S G R A RT GT E n top f) :
    Calls Tryz.prog 42 #[.pointer (some ⟨S, 0, none⟩), .iface t x] w fun e w' => e = .returned (.tuple #[]) ∧ Upd (fun c => c = R ∨ c = A) w w' ∧ Sta w' S G R A RT GT E n (top + 1) (fun m => if m = top then .iface t x else f m) := by
  have s := h.st.at (o := 13) rfl
  have H := Lib.hid h
  clear h
  go_enter Tryz.func42, Tryz.ntmps42
  go_wp2_with fail
  refine (reg_push S G R A RT GT E n top t x f _ hi hn H.out).mono ?_
  rintro e w' ⟨rfl, h⟩
  have K := Lib.hid h
  clear h s
  go_wp2
  go_end0
  exact ⟨rfl, K.out⟩

set_option maxHeartbeats 400000 in
theorem reg_top (S G R A RT GT E n top : Nat) (f : Nat → Value) (w : World) (h : Sta w S G R A RT GT E n top f) :
    Calls Tryz.prog 44 #[.pointer (some ⟨R, 0, none⟩)] w fun e w' => e = .returned (.int .i64 top) ∧ w = w' := by
  have g1 := h.rg.at (o := 1) rfl
  clear h
  go_enter Tryz.func44, Tryz.ntmps44
  go_wp2
  go_ret
  exact ⟨rfl, rfl⟩

set_option maxHeartbeats 400000 in
theorem reg_get (S G R A RT GT E n top i : Nat) (f : Nat → Value) (w : World) (hi : i < n) (_hn : n ≤ 65536) (h : Sta w S G R A RT GT E n top f) :
    Calls Tryz.prog 48 #[.pointer (some ⟨R, 0, none⟩), .int .i64 i] w fun e w' => e = .returned (f i) ∧ w = w' := by
  have g0 := h.rg.at (o := 0) rfl
  have r := h.ar.at (tab_in hi)
  clear h
  go_enter Tryz.func48, Tryz.ntmps48
  go_wp2
  go_ret
  exact ⟨rfl, rfl⟩

set_option maxHeartbeats 400000 in
theorem st_base (S G R A RT GT E n top : Nat) (f : Nat → Value) (w : World) (h : Sta w S G R A RT GT E n top f) :
    Calls Tryz.prog 45 #[.pointer (some ⟨S, 0, none⟩)] w fun e w' => e = .returned (.int .i64 0) ∧ w = w' := by
  have s := h.st.at (o := 16) rfl
  clear h
  go_enter Tryz.func45, Tryz.ntmps45
  go_wp2
  go_ret
  exact ⟨rfl, rfl⟩

set_option maxHeartbeats 400000 in
theorem st_gettop (S G R A RT GT E n top : Nat) (f : Nat → Value) (w : World) (hn : top ≤ 65536) (h : Sta w S G R A RT GT E n top f) :
    Calls Tryz.prog 26 #[.pointer (some ⟨S, 0, none⟩)] w fun e w' => e = .returned (.int .i64 top) ∧ w = w' := by
  have s := h.st.at (o := 13) rfl
  have H := Lib.hid h
  clear h
  go_enter Tryz.func26, Tryz.ntmps26
  go_wp2_with fail
  refine (reg_top S G R A RT GT E n top f _ H.out).mono ?_
  rintro e w' ⟨rfl, rfl⟩
  go_wp2_with fail
  refine (st_base S G R A RT GT E n top f _ H.out).mono ?_
  rintro e w' ⟨rfl, rfl⟩
  go_wp2
  go_ret
  exact ⟨rfl, rfl⟩
end Go.Proofs.YtejhfhcndpehiaaGreatFmt
