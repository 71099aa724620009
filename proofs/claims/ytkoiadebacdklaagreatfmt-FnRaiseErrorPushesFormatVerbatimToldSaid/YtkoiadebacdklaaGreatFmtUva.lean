/- The state of the n005_143 laws: made, its registers, frames and marks set and read: walked. -/
import Derived.Test.YtkoiadebacdklaaGreatFmtStk
import Derived.Test.YtkoiadebacdklaaGreatFmtCells
import Derived.WideLaws
import Derived.Laws.Cover2
import Derived.LaidEqlPtr
import Derived.Deep.LoopGhost
import Derived.Deep.QuietTactic
import Derived.BigQuiet
import Derived.RegionTactic
import Derived.BigRegion
import Derived.IntWalk
namespace Go.Proofs.YtkoiadebacdklaaGreatFmt
open Go.RowKit
set_option maxRecDepth 100000

/-- A string as a value of the program. -/
def sv (s : ByteArray) : Value := .iface 110 (.string s)
def panicv : Value := .func (.func 57) #[] #[]
/-- The cells of the registry's own struct. -/
def regs2 (A cap top : Nat) : List Value := [.slice (some ⟨A, 0, none⟩) cap cap, .int .i64 top, .int .i64 0, .int .i64 0, .pointer none, .nilIface]
/-- The state. -/
def st2 (R B : Nat) (cur uv : Option Addr) (dead err : Bool) : List Value := [.pointer none, .pointer none, .pointer none, panicv, .bool dead, .int .i64 0, .int .i64 0, .int .i64 0, .int .i64 0, .bool false, .bool false, .bool false, .int .i32 0, .pointer (some ⟨R, 0, none⟩), .iface 148 (.pointer (some ⟨B, 0, none⟩)), .pointer none, .pointer cur, .bool false, .pointer uv, .bool err, .nilFunc]

structure S2 (w : World) (S R A B F cap top k sp : Nat) (cur uv : Option Addr) (dead err : Bool) (v : Nat → Value) (fr : Nat → List Value) : Prop where
  dis : A ≠ R ∧ A ≠ F ∧ A ≠ B ∧ A ≠ S ∧ R ≠ F ∧ R ≠ B ∧ R ≠ S ∧ F ≠ B ∧ F ≠ S ∧ B ≠ S
  st : Blk w S (st2 R B cur uv dead err) 46
  rg : Blk w R (regs2 A cap top) 123
  ar : Blk w A (tab cap v) 101
  fs : Blk w F (rws k fr) 129
  sk : Blk w B (stk F k sp) 151

theorem S2.upd {w w' : World} {S R A B F cap top k sp : Nat} {cur uv : Option Addr} {dead err : Bool} {v : Nat → Value} {fr : Nat → List Value} (h : S2 w S R A B F cap top k sp cur uv dead err v fr) {T : Nat → Prop} (hu : Upd T w w')
    (hT : ¬ T S ∧ ¬ T R ∧ ¬ T A ∧ ¬ T B ∧ ¬ T F) : S2 w' S R A B F cap top k sp cur uv dead err v fr :=
  ⟨h.dis, hu.blk h.st hT.1, hu.blk h.rg hT.2.1, hu.blk h.ar hT.2.2.1, hu.blk h.fs hT.2.2.2.2, hu.blk h.sk hT.2.2.2.1⟩
theorem S2.new {w w' : World} {S R A B F cap top k sp : Nat} {cur uv : Option Addr} {dead err : Bool} {v : Nat → Value} {fr : Nat → List Value} (h : S2 w S R A B F cap top k sp cur uv dead err v fr) (hu : Upd (fun _ => False) w w') : S2 w' S R A B F cap top k sp cur uv dead err v fr :=
  h.upd hu ⟨fun h => h, fun h => h, fun h => h, fun h => h, fun h => h⟩

theorem mkLV (k : Nat) (hk : k ≤ 1048576) (w : World) : (Instr.makeSlice 61 (.int .i64 (k : Int)) (.int .i64 (k : Int))).run Tryz.prog w = .ok (.slice (some ⟨w.heap.size, 0, none⟩) k k) (w.alloc (.cells (tab k fun _ => Value.nilIface).toArray 101)) := by
  have h := run_made (P := Tryz.prog) 61 101 .nilIface 16 Tryz.underlying61 (by kernel_rfl) (by decide) k (by omega) (by omega) w
  rw [show ((List.replicate k Value.nilIface.cells.toList).flatten) = tab k fun _ => Value.nilIface by
    rw [← tab_rep]; show (List.replicate k [Value.nilIface]).flatten = _; simp] at h
  exact h

set_option maxHeartbeats 400000 in
theorem new_stack (k : Nat) (w : World) (hk : k ≤ 4096) :
    Calls Tryz.prog 56 #[.int .i64 k] w fun e w' => e = .returned (.iface 148 (.pointer (some ⟨w.heap.size + 1, 0, none⟩))) ∧ Upd (fun _ => False) w w' ∧ w'.heap.size = w.heap.size + 2 ∧ Blk w' w.heap.size (rws k fun _ => fr0) 129 ∧ Blk w' (w.heap.size + 1) (stk w.heap.size k 0) 151 := by
  have hm := mkFrames k hk
  go_enter Tryz.func56, Tryz.ntmps56
  go_wp2
  go_ret
  exact ⟨rfl, ((Upd.refl _ _).alloc _).alloc _, by simp, (Blk.new _ _ _).alloc _, Blk.new_at (by simp) (stk w.heap.size k 0) _⟩

set_option maxHeartbeats 800000 in
theorem new_state2 (top free k : Nat) (w : World) (h1 : top ≤ 65536) (h2 : free ≤ 65536) (hk : k ≤ 4096) :
    Calls Tryz.prog 14 #[.int .i64 top, .int .i64 free, .int .i64 k] w fun e w' => ∃ S R A B F, e = .returned (.pointer (some ⟨S, 0, none⟩)) ∧ Upd (fun _ => False) w w' ∧ (w.heap.size ≤ S ∧ w.heap.size ≤ R ∧ w.heap.size ≤ A ∧ w.heap.size ≤ B ∧ w.heap.size ≤ F) ∧
      S2 w' S R A B F (top + free) top k 0 none none false false (fun _ => .nilIface) (fun _ => fr0) := by
  obtain ⟨cap, hcap⟩ : ∃ cap, top + free = cap := ⟨_, rfl⟩
  rw [hcap]
  have hm := mkLV cap (by omega)
  have hw : IntKind.i64.wrap ((top : Int) + (free : Int)) = (cap : Int) := by rw [IntWalk.i64_in _ (by omega)]; omega
  clear hcap
  go_enter Tryz.func14, Tryz.ntmps14
  go_wp2
  go_region_with (go_at_call 56; refine (new_stack k _ hk).mono ?_; rintro e w1 ⟨rfl, hu, hz, ha, hb⟩; have HU := Lib.hid hu; have HZ := Lib.hid hz; have HA := Lib.hid ha; have HB := Lib.hid hb; clear hu hz ha hb)
  · have e0 : ((w.alloc (.cells (tab cap fun _ => Value.nilIface).toArray 101)).alloc (.cells (regs2 w.heap.size cap top).toArray 123)).drew.heap.size = w.heap.size + 2 := by show (World.alloc _ _).heap.size = _; simp
    have hu0 : Upd (fun _ => False) w ((w.alloc (.cells (tab cap fun _ => Value.nilIface).toArray 101)).alloc (.cells (regs2 w.heap.size cap top).toArray 123)).drew := (((Upd.refl _ _).alloc _).alloc _).drew
    have z : w1.heap.size = w.heap.size + 4 := by rw [HZ.out]; show ((w.alloc (.cells (tab cap fun _ => Value.nilIface).toArray 101)).alloc (.cells (regs2 w.heap.size cap top).toArray 123)).drew.heap.size + 2 = _; rw [e0]
    have ha : Blk w1 w.heap.size (tab cap fun _ => Value.nilIface) 101 := HU.out.blk ((Blk.new _ _ _).alloc _) (fun h => h)
    have hr : Blk w1 (w.heap.size + 1) (regs2 w.heap.size cap top) 123 := HU.out.blk (Blk.new_at (w := w.alloc (.cells (tab cap fun _ => Value.nilIface).toArray 101)) (by simp) (regs2 w.heap.size cap top) _) (fun h => h)
    have hf : Blk w1 (w.heap.size + 2) (rws k fun _ => fr0) 129 := by rw [← e0]; exact HA.out
    have hb : Blk w1 (w.heap.size + 3) (stk (w.heap.size + 2) k 0) 151 := by rw [← e0, show w.heap.size + 3 = w.heap.size + 2 + 1 from rfl, ← e0]; exact HB.out
    have H1 := Lib.hid (⟨ha, hr, hf, hb⟩ : _ ∧ _ ∧ _ ∧ _)
    have Z := Lib.hid z
    have U := Lib.hid (hu0.trans HU.out)
    clear HA HB HU HZ e0 hu0 z ha hr hf hb
    go_wp2
    go_ret
    have z := Z.out
    exact ⟨w1.heap.size, w.heap.size + 1, w.heap.size, w.heap.size + 3, w.heap.size + 2, rfl, U.out.alloc _, by omega, by omega, Blk.new w1 (st2 (w.heap.size + 1) (w.heap.size + 3) none none false false) _, H1.out.2.1.alloc _, H1.out.1.alloc _, H1.out.2.2.1.alloc _, H1.out.2.2.2.alloc _⟩
  · have e0 : (w.alloc (.cells (tab cap fun _ => Value.nilIface).toArray 101)).drew.heap.size = w.heap.size + 1 := by show (World.alloc _ _).heap.size = _; simp
    have hu0 : Upd (fun _ => False) w (w.alloc (.cells (tab cap fun _ => Value.nilIface).toArray 101)).drew := ((Upd.refl _ _).alloc _).drew
    have z : w1.heap.size = w.heap.size + 3 := by rw [HZ.out]; show (w.alloc (.cells (tab cap fun _ => Value.nilIface).toArray 101)).drew.heap.size + 2 = _; rw [e0]
    have ha : Blk w1 w.heap.size (tab cap fun _ => Value.nilIface) 101 := HU.out.blk (Blk.new _ _ _) (fun h => h)
    have hf : Blk w1 (w.heap.size + 1) (rws k fun _ => fr0) 129 := by rw [← e0]; exact HA.out
    have hb : Blk w1 (w.heap.size + 2) (stk (w.heap.size + 1) k 0) 151 := by rw [← e0, show w.heap.size + 2 = w.heap.size + 1 + 1 from rfl, ← e0]; exact HB.out
    have H1 := Lib.hid (⟨ha, hf, hb⟩ : _ ∧ _ ∧ _)
    have Z := Lib.hid z
    have U := Lib.hid (hu0.trans HU.out)
    clear HA HB HU HZ e0 hu0 z ha hf hb
    go_wp2
    go_ret
    have z := Z.out
    exact ⟨w1.heap.size + 1, w1.heap.size, w.heap.size, w.heap.size + 2, w.heap.size + 1, rfl, (U.out.alloc _).alloc _, by omega, by omega, Blk.new_at (by simp) (st2 w1.heap.size (w.heap.size + 2) none none false false) _, (Blk.new w1 (regs2 w.heap.size cap top) _).alloc _, (H1.out.1.alloc _).alloc _, (H1.out.2.1.alloc _).alloc _, (H1.out.2.2.alloc _).alloc _⟩
  · have e0 : w.drew.heap.size = w.heap.size := rfl
    have hu0 : Upd (fun _ => False) w w.drew := (Upd.refl _ _).drew
    have z : w1.heap.size = w.heap.size + 2 := HZ.out
    have hf : Blk w1 w.heap.size (rws k fun _ => fr0) 129 := HA.out
    have hb : Blk w1 (w.heap.size + 1) (stk w.heap.size k 0) 151 := HB.out
    have H1 := Lib.hid (⟨hf, hb⟩ : _ ∧ _)
    have Z := Lib.hid z
    have U := Lib.hid (hu0.trans HU.out)
    clear HA HB HU HZ e0 hu0 z hf hb
    go_wp2
    go_ret
    have z := Z.out
    exact ⟨w1.heap.size + 1 + 1, w1.heap.size + 1, w1.heap.size, w.heap.size + 1, w.heap.size, rfl, ((U.out.alloc _).alloc _).alloc _, by omega, by omega, Blk.new_at (by simp) (st2 (w1.heap.size + 1) (w.heap.size + 1) none none false false) _, (Blk.new_at (w := w1.alloc (.cells (tab cap fun _ => Value.nilIface).toArray 101)) (by simp) (regs2 w1.heap.size cap top) _).alloc _, ((Blk.new _ _ _).alloc _).alloc _, ((H1.out.1.alloc _).alloc _).alloc _, ((H1.out.2.alloc _).alloc _).alloc _⟩

set_option maxHeartbeats 400000 in
theorem set_reg (S R A B F cap top k sp i : Nat) (cur uv : Option Addr) (dead err : Bool) (v : Nat → Value) (fr : Nat → List Value) (s : ByteArray) (w : World) (hi : i < cap) (_hc : cap ≤ 131072) (h : S2 w S R A B F cap top k sp cur uv dead err v fr) :
    Calls Tryz.prog 15 #[.pointer (some ⟨S, 0, none⟩), .int .i64 i, .string s] w fun e w' => e = .returned (.tuple #[]) ∧ Upd (fun c => c = A) w w' ∧ S2 w' S R A B F cap top k sp cur uv dead err (fun m => if m = i then sv s else v m) fr := by
  have s13 := h.st.at (o := 13) rfl
  have g0 := h.rg.at (o := 0) rfl
  have r := h.ar.at (tab_in hi)
  have rf := h.ar.free i
  have i1 : (0 : Int) ≤ (i : Int) := by omega
  have i2 : (i : Int) < (cap : Int) := by omega
  have H := Lib.hid h
  clear h
  go_enter Tryz.func15, Tryz.ntmps15
  go_wp2
  go_end0
  have d := H.out.dis
  refine ⟨rfl, (Upd.refl (fun c => c = A) _).setCell ⟨A, i, none⟩ _ (.inl rfl), d, H.out.st.set_other _ _ (by show S ≠ A; omega), H.out.rg.set_other _ _ (by show R ≠ A; omega), ?_, H.out.fs.set_other _ _ (by show F ≠ A; omega), H.out.sk.set_other _ _ (by show B ≠ A; omega)⟩
  have h := H.out.ar.set i (sv s)
  rw [tab_set] at h
  exact h

set_option maxHeartbeats 400000 in
theorem set_err (S R A B F cap top k sp : Nat) (cur uv : Option Addr) (dead err b : Bool) (v : Nat → Value) (fr : Nat → List Value) (w : World) (h : S2 w S R A B F cap top k sp cur uv dead err v fr) :
    Calls Tryz.prog 16 #[.pointer (some ⟨S, 0, none⟩), .bool b] w fun e w' => e = .returned (.tuple #[]) ∧ Upd (fun c => c = S) w w' ∧ S2 w' S R A B F cap top k sp cur uv dead b v fr := by
  have s19 := h.st.at (o := 19) rfl
  have sf := h.st.free 19
  have H := Lib.hid h
  clear h
  go_enter Tryz.func16, Tryz.ntmps16
  go_wp2
  go_end0
  have d := H.out.dis
  exact ⟨rfl, Upd.setCell (S := fun c => c = S) (Upd.refl _ _) ⟨S, 19, none⟩ _ (Or.inl rfl), d, H.out.st.set 19 _, H.out.rg.set_other _ _ (by show R ≠ S; omega), H.out.ar.set_other _ _ (by show A ≠ S; omega), H.out.fs.set_other _ _ (by show F ≠ S; omega), H.out.sk.set_other _ _ (by show B ≠ S; omega)⟩

set_option maxHeartbeats 400000 in
theorem reg_top (S R A B F cap top k sp : Nat) (cur uv : Option Addr) (dead err : Bool) (v : Nat → Value) (fr : Nat → List Value) (w : World) (h : S2 w S R A B F cap top k sp cur uv dead err v fr) :
    Calls Tryz.prog 59 #[.pointer (some ⟨R, 0, none⟩)] w fun e w' => e = .returned (.int .i64 top) ∧ w = w' := by
  have g1 := h.rg.at (o := 1) rfl
  clear h
  go_enter Tryz.func59, Tryz.ntmps59
  go_wp2
  go_ret
  exact ⟨rfl, rfl⟩

set_option maxHeartbeats 400000 in
theorem zz_top (S R A B F cap top k sp : Nat) (cur uv : Option Addr) (dead err : Bool) (v : Nat → Value) (fr : Nat → List Value) (w : World) (h : S2 w S R A B F cap top k sp cur uv dead err v fr) :
    Calls Tryz.prog 18 #[.pointer (some ⟨S, 0, none⟩)] w fun e w' => e = .returned (.int .i64 top) ∧ w = w' := by
  have s13 := h.st.at (o := 13) rfl
  have H := Lib.hid h
  clear h
  go_enter Tryz.func18, Tryz.ntmps18
  go_wp2_with fail
  refine (reg_top S R A B F cap top k sp cur uv dead err v fr _ H.out).mono ?_
  rintro e w' ⟨rfl, rfl⟩
  go_wp2
  go_ret
  exact ⟨rfl, rfl⟩

set_option maxHeartbeats 400000 in
theorem zz_string (S R A B F cap top k sp i : Nat) (cur uv : Option Addr) (dead err : Bool) (v : Nat → Value) (fr : Nat → List Value) (s : ByteArray) (w : World) (hi : i < cap) (_hc : cap ≤ 131072) (hs : v i = sv s) (h : S2 w S R A B F cap top k sp cur uv dead err v fr) :
    Calls Tryz.prog 19 #[.pointer (some ⟨S, 0, none⟩), .int .i64 i] w fun e w' => e = .returned (.tuple #[.string s, .bool true]) ∧ w = w' := by
  have s13 := h.st.at (o := 13) rfl
  have g0 := h.rg.at (o := 0) rfl
  have r := h.ar.at (tab_in hi)
  rw [hs] at r
  unfold sv at r
  have i1 : (0 : Int) ≤ (i : Int) := by omega
  have i2 : (i : Int) < (cap : Int) := by omega
  clear h hs
  go_enter Tryz.func19, Tryz.ntmps19
  go_wp2
  go_ret2
  exact ⟨rfl, rfl⟩

/-- A frame of these laws. -/
def frm (i : Nat) (fn : Nat) (par : Option Addr) (pc base lb : Int) : List Value := [.int .i64 i, .pointer (some ⟨fn, 0, none⟩), .pointer par, .int .i64 pc, .int .i64 base, .int .i64 lb, .int .i64 0, .int .i64 0, .int .i64 0, .int .i64 0]
theorem frm_one (i fn : Nat) (par : Option Addr) (pc base lb : Int) : ∀ v ∈ frm i fn par pc base lb, v.oneCell' = true := by
  intro v hv
  unfold frm at hv
  simp only [List.mem_cons, List.not_mem_nil, or_false] at hv
  rcases hv with rfl | rfl | rfl | rfl | rfl | rfl | rfl | rfl | rfl | rfl <;> rfl

set_option maxHeartbeats 800000 in
theorem push_frame (S R A B F cap top k sp fn : Nat) (cur uv : Option Addr) (dead err : Bool) (v : Nat → Value) (fr : Nat → List Value) (base lb pc : Int) (w : World) (hs : sp < k) (hk : k ≤ 4096) (hf : ∀ i, i < k → (fr i).length = 10) (h : S2 w S R A B F cap top k sp cur uv dead err v fr) :
    Calls Tryz.prog 22 #[.pointer (some ⟨S, 0, none⟩), .pointer (some ⟨fn, 0, none⟩), .int .i64 base, .int .i64 lb, .int .i64 pc] w fun e w' => e = .returned (.tuple #[]) ∧ Upd (fun c => c = S ∨ c = F ∨ c = B) w w' ∧
      S2 w' S R A B F cap top k (sp + 1) (some ⟨F, sp * 10, none⟩) uv dead err v (fun m => if m = sp then frm sp fn cur pc base lb else fr m) := by
  have s14 := h.st.at (o := 14) rfl
  have s16 := h.st.at (o := 16) rfl
  have H := Lib.hid h
  have HF := Lib.hid hf
  clear h hf
  go_enter Tryz.func22, Tryz.ntmps22
  go_wp2
  refine wp_region_tail_at 15 (by kernel_rfl) (by kernel_rfl) (fun W1 hW1 => ?_)
  have UP := Lib.hid (show Upd (fun c => c = S ∨ c = F ∨ c = B) w W1 by rw [hW1]; exact (Upd.refl _ _).drew)
  have H1 := Lib.hid (show S2 W1 S R A B F cap top k sp cur uv dead err v fr by rw [hW1]; exact ⟨H.out.dis, H.out.st, H.out.rg, H.out.ar, H.out.fs, H.out.sk⟩)
  clear hW1 H s14 s16
  have s14 := H1.out.st.at (o := 14) rfl
  have s16 := H1.out.st.at (o := 16) rfl
  simp only [List.take_succ_cons, List.take_zero, List.drop_succ_cons, List.drop_zero]
  repeat still_step
  refine wpStill_nil ?_
  go_wp2_with fail
  have d := H1.out.dis
  refine (stk_push B F sp k fr (frm 0 fn cur pc base lb) _ hs hk HF.out rfl (frm_one 0 fn cur pc base lb) 0 rfl (by omega) H1.out.fs H1.out.sk).mono ?_
  rintro e w2 ⟨rfl, hu, hf, hk2⟩
  have UP2 := Lib.hid (UP.out.trans (hu.mono (fun c _ h => .inr h)))
  have H2 := Lib.hid (show S2 w2 S R A B F cap top k (sp + 1) cur uv dead err v (fun m => if m = sp then frm sp fn cur pc base lb else fr m) from
    ⟨d, hu.blk H1.out.st (by omega), hu.blk H1.out.rg (by omega), hu.blk H1.out.ar (by omega), hf, hk2⟩)
  clear hu hf hk2 UP H1 s14 s16 d
  have s14 := H2.out.st.at (o := 14) rfl
  go_wp2_with fail
  refine (stk_last B F k sp _ hs hk H2.out.sk).mono ?_
  rintro e w3 ⟨rfl, n, rfl⟩
  have UP3 := Lib.hid (UP2.out.drewN n)
  have H3 := Lib.hid (show S2 (w2.drewN n) S R A B F cap top k (sp + 1) cur uv dead err v (fun m => if m = sp then frm sp fn cur pc base lb else fr m) from ⟨H2.out.dis, H2.out.st, H2.out.rg, H2.out.ar, H2.out.fs, H2.out.sk⟩)
  clear UP2 H2 s14
  generalize w2.drewN n = w4 at *
  have s16 := H3.out.st.at (o := 16) rfl
  have sf := H3.out.st.free 16
  go_wp2
  go_end0
  have d := H3.out.dis
  exact ⟨rfl, UP3.out.setCell _ _ (.inl (.inl rfl)), d, H3.out.st.set 16 _, H3.out.rg.set_other _ _ (by show R ≠ S; omega), H3.out.ar.set_other _ _ (by show A ≠ S; omega), H3.out.fs.set_other _ _ (by show F ≠ S; omega), H3.out.sk.set_other _ _ (by show B ≠ S; omega)⟩

set_option maxHeartbeats 400000 in
theorem frame_at (S R A B F cap top k sp i : Nat) (cur uv : Option Addr) (dead err : Bool) (v : Nat → Value) (fr : Nat → List Value) (w : World) (hi : i < k) (h : S2 w S R A B F cap top k sp cur uv dead err v fr) :
    Calls Tryz.prog 24 #[.pointer (some ⟨S, 0, none⟩), .int .i64 i] w fun e w' => e = .returned (.pointer (some ⟨F, i * 10, none⟩)) ∧ w = w' := by
  have s14 := h.st.at (o := 14) rfl
  have H := Lib.hid h
  clear h
  go_enter Tryz.func24, Tryz.ntmps24
  go_wp2_with fail
  refine (stk_at B F k i sp _ hi H.out.sk).mono ?_
  rintro e w' ⟨rfl, rfl⟩
  go_wp2
  go_ret
  exact ⟨rfl, rfl⟩
end Go.Proofs.YtkoiadebacdklaaGreatFmt
