/- SetFEnv and GetFEnv, for each kind of object: walked. -/
import Derived.Test.YtkoiadebacdklaaGreatFmtFea
namespace Go.Proofs.YtkoiadebacdklaaGreatFmt
open Go.RowKit
set_option maxRecDepth 100000

set_option maxHeartbeats 800000 in
theorem set_fn (L : Option Addr) (O T : Nat) (l : List Value) (old : Value) (w : World) (h : Blk w O l 59) (hl : l[1]? = some old) :
    Calls Tryz.prog 49 #[.pointer L, .iface 54 (.pointer (some ⟨O, 0, none⟩)), tabv T] w fun e w' => e = .returned (.tuple #[]) ∧ Upd (fun c => c = O) w w' ∧ Blk w' O (l.set 1 (.pointer (some ⟨T, 0, none⟩))) 59 := by
  have c1 := h.at hl
  have f1 := h.free 1
  have H := Lib.hid h
  clear h hl
  unfold tabv
  go_enter Tryz.func49, Tryz.ntmps49
  go_wp2
  go_end0
  exact ⟨rfl, Upd.setCell (S := fun c => c = O) (Upd.refl _ _) ⟨O, 1, none⟩ _ (Or.inl rfl), H.out.set 1 _⟩

set_option maxHeartbeats 800000 in
theorem get_fn (L : Option Addr) (O T : Nat) (l : List Value) (w : World) (h : Blk w O l 59) (hl : l[1]? = some (.pointer (some ⟨T, 0, none⟩))) :
    Calls Tryz.prog 50 #[.pointer L, .iface 54 (.pointer (some ⟨O, 0, none⟩))] w fun e w' => e = .returned (tabv T) ∧ w = w' := by
  have c1 := h.at hl
  clear h hl
  go_enter Tryz.func50, Tryz.ntmps50
  go_wp2
  go_ret
  exact ⟨rfl, rfl⟩

set_option maxHeartbeats 800000 in
theorem set_ud (L : Option Addr) (O T : Nat) (l : List Value) (old : Value) (w : World) (h : Blk w O l 103) (hl : l[1]? = some old) :
    Calls Tryz.prog 49 #[.pointer L, .iface 99 (.pointer (some ⟨O, 0, none⟩)), tabv T] w fun e w' => e = .returned (.tuple #[]) ∧ Upd (fun c => c = O) w w' ∧ Blk w' O (l.set 1 (.pointer (some ⟨T, 0, none⟩))) 103 := by
  have c1 := h.at hl
  have f1 := h.free 1
  have H := Lib.hid h
  clear h hl
  unfold tabv
  go_enter Tryz.func49, Tryz.ntmps49
  go_wp2
  go_end0
  exact ⟨rfl, Upd.setCell (S := fun c => c = O) (Upd.refl _ _) ⟨O, 1, none⟩ _ (Or.inl rfl), H.out.set 1 _⟩

set_option maxHeartbeats 800000 in
theorem get_ud (L : Option Addr) (O T : Nat) (l : List Value) (w : World) (h : Blk w O l 103) (hl : l[1]? = some (.pointer (some ⟨T, 0, none⟩))) :
    Calls Tryz.prog 50 #[.pointer L, .iface 99 (.pointer (some ⟨O, 0, none⟩))] w fun e w' => e = .returned (tabv T) ∧ w = w' := by
  have c1 := h.at hl
  clear h hl
  go_enter Tryz.func50, Tryz.ntmps50
  go_wp2
  go_ret
  exact ⟨rfl, rfl⟩

set_option maxHeartbeats 800000 in
theorem set_th (L : Option Addr) (O T : Nat) (l : List Value) (old : Value) (w : World) (h : Blk w O l 46) (hl : l[2]? = some old) :
    Calls Tryz.prog 49 #[.pointer L, .iface 26 (.pointer (some ⟨O, 0, none⟩)), tabv T] w fun e w' => e = .returned (.tuple #[]) ∧ Upd (fun c => c = O) w w' ∧ Blk w' O (l.set 2 (.pointer (some ⟨T, 0, none⟩))) 46 := by
  have c1 := h.at hl
  have f1 := h.free 2
  have H := Lib.hid h
  clear h hl
  unfold tabv
  go_enter Tryz.func49, Tryz.ntmps49
  go_wp2
  go_end0
  exact ⟨rfl, Upd.setCell (S := fun c => c = O) (Upd.refl _ _) ⟨O, 2, none⟩ _ (Or.inl rfl), H.out.set 2 _⟩

set_option maxHeartbeats 800000 in
theorem get_th (L : Option Addr) (O T : Nat) (l : List Value) (w : World) (h : Blk w O l 46) (hl : l[2]? = some (.pointer (some ⟨T, 0, none⟩))) :
    Calls Tryz.prog 50 #[.pointer L, .iface 26 (.pointer (some ⟨O, 0, none⟩))] w fun e w' => e = .returned (tabv T) ∧ w = w' := by
  have c1 := h.at hl
  clear h hl
  go_enter Tryz.func50, Tryz.ntmps50
  go_wp2
  go_ret
  exact ⟨rfl, rfl⟩

set_option maxHeartbeats 800000 in
theorem set_tab (L : Option Addr) (O : Nat) (T : Nat) (w : World) :
    Calls Tryz.prog 49 #[.pointer L, .iface 34 (.pointer (some ⟨O, 0, none⟩)), tabv T] w fun e w' => e = .returned (.tuple #[]) ∧ w = w' := by
  unfold tabv
  go_enter Tryz.func49, Tryz.ntmps49
  go_wp2
  go_end0
  exact ⟨rfl, rfl⟩

set_option maxHeartbeats 800000 in
theorem get_tab (L : Option Addr) (O : Nat) (w : World) :
    Calls Tryz.prog 50 #[.pointer L, .iface 34 (.pointer (some ⟨O, 0, none⟩))] w fun e w' => e = .returned nilw ∧ w = w' := by
  go_enter Tryz.func50, Tryz.ntmps50
  go_wp2
  go_ret
  exact ⟨rfl, rfl⟩

set_option maxHeartbeats 800000 in
theorem set_str (L : Option Addr) (s : ByteArray) (T : Nat) (w : World) :
    Calls Tryz.prog 49 #[.pointer L, .iface 110 (.string s), tabv T] w fun e w' => e = .returned (.tuple #[]) ∧ w = w' := by
  unfold tabv
  go_enter Tryz.func49, Tryz.ntmps49
  go_wp2
  go_end0
  exact ⟨rfl, rfl⟩

set_option maxHeartbeats 800000 in
theorem get_str (L : Option Addr) (s : ByteArray) (w : World) :
    Calls Tryz.prog 50 #[.pointer L, .iface 110 (.string s)] w fun e w' => e = .returned nilw ∧ w = w' := by
  go_enter Tryz.func50, Tryz.ntmps50
  go_wp2
  go_ret
  exact ⟨rfl, rfl⟩

set_option maxHeartbeats 800000 in
theorem set_num (L : Option Addr) (b : Nat) (T : Nat) (w : World) :
    Calls Tryz.prog 49 #[.pointer L, .iface 111 (.float .f64 b), tabv T] w fun e w' => e = .returned (.tuple #[]) ∧ w = w' := by
  unfold tabv
  go_enter Tryz.func49, Tryz.ntmps49
  go_wp2
  go_end0
  exact ⟨rfl, rfl⟩

set_option maxHeartbeats 800000 in
theorem get_num (L : Option Addr) (b : Nat) (w : World) :
    Calls Tryz.prog 50 #[.pointer L, .iface 111 (.float .f64 b)] w fun e w' => e = .returned nilw ∧ w = w' := by
  go_enter Tryz.func50, Tryz.ntmps50
  go_wp2
  go_ret
  exact ⟨rfl, rfl⟩

set_option maxHeartbeats 800000 in
theorem set_bool (L : Option Addr) (b : Bool) (T : Nat) (w : World) :
    Calls Tryz.prog 49 #[.pointer L, .iface 116 (.bool b), tabv T] w fun e w' => e = .returned (.tuple #[]) ∧ w = w' := by
  unfold tabv
  go_enter Tryz.func49, Tryz.ntmps49
  go_wp2
  go_end0
  exact ⟨rfl, rfl⟩

set_option maxHeartbeats 800000 in
theorem set_nil (L : Option Addr)  (T : Nat) (w : World) :
    Calls Tryz.prog 49 #[.pointer L, .iface 117 (.int .u8 0), tabv T] w fun e w' => e = .returned (.tuple #[]) ∧ w = w' := by
  unfold tabv
  go_enter Tryz.func49, Tryz.ntmps49
  go_wp2
  go_end0
  exact ⟨rfl, rfl⟩

end Go.Proofs.YtkoiadebacdklaaGreatFmt
