/- A closure over fresh upvalue cells that hold strings; what the readers of the n005_150 laws say: walked. -/
import Derived.Test.YtejhfhcndpehiaaGreatFmtUpv
namespace Go.Proofs.YtejhfhcndpehiaaGreatFmt
open Go.RowKit
set_option maxRecDepth 100000

/-- The elements that a slice shows, all in blocks below B. -/
def Held (w : World) (B : Nat) (a : Option Addr) (k : Nat) (f : Nat → Value) : Prop := ∀ j, j < k → ∃ b off, a = some ⟨b, off, none⟩ ∧ b < B ∧ w.cell? ⟨b, off + j, none⟩ = some (f j)
theorem Cells.held {w : World} {a : Option Addr} {k : Nat} {f : Nat → Value} (h : Cells w a k f) : Held w w.heap.size a k f := fun j hj => by
  obtain ⟨b, off, ha, hc⟩ := h.one hj
  exact ⟨b, off, ha, World.block_lt_of_cell? w _ hc, hc⟩
theorem Held.cells {w : World} {B : Nat} {a : Option Addr} {k : Nat} {f : Nat → Value} (h : Held w B a k f) : Cells w a k f := fun j hj => by
  obtain ⟨b, off, ha, _, hc⟩ := h j hj
  exact ⟨_, ha, by rw [Addr.add_mid]; exact hc⟩
theorem Held.upd {w w' : World} {B : Nat} {a : Option Addr} {k : Nat} {f : Nat → Value} {S : Nat → Prop} (h : Held w B a k f) (hu : Upd S w w') (hS : ∀ c, S c → B ≤ c) : Held w' B a k f := fun j hj => by
  obtain ⟨b, off, ha, hb, hc⟩ := h j hj
  exact ⟨b, off, ha, hb, by rw [← hc]; exact World.cell?_of_block (a := ⟨b, off + j, none⟩) (hu.block _ (World.block_lt_of_cell? w _ hc) (fun hs => by have := hS _ hs; simp at this; omega))⟩
theorem Held.mono {w : World} {B B' : Nat} {a : Option Addr} {k : Nat} {f : Nat → Value} (h : Held w B a k f) (hB : B ≤ B') : Held w B' a k f := fun j hj => by
  obtain ⟨b, off, ha, hb, hc⟩ := h j hj
  exact ⟨b, off, ha, by omega, hc⟩
theorem Held.less {w : World} {B : Nat} {a : Option Addr} {k k' : Nat} {f : Nat → Value} (h : Held w B a k f) (hk : k' ≤ k) : Held w B a k' f := fun j hj => h j (by omega)
theorem Held.of_new {w' : World} {b : Nat} {a : Option Addr} {k : Nat} {f : Nat → Value} {t : TypeId} (h : 0 < k → a = some ⟨b, 0, none⟩ ∧ Blk w' b (tab k f) t) : Held w' w'.heap.size a k f := (Cells.of_blk h).held

theorem mkUps (k : Nat) (hk : k ≤ 1048576) (w : World) : (Instr.makeSlice 79 (.int .i64 (k : Int)) (.int .i64 (k : Int))).run Tryz.prog w = .ok (.slice (some ⟨w.heap.size, 0, none⟩) k k) (w.alloc (.cells (tab k fun _ => Value.pointer none).toArray 60)) := by
  have h := run_made (P := Tryz.prog) 79 60 (.pointer none) 8 Tryz.underlying79 (by kernel_rfl) (by decide) k (by omega) (by omega) w
  rw [show ((List.replicate k (Value.pointer none).cells.toList).flatten) = tab k fun _ => Value.pointer none by
    rw [← tab_rep]; show (List.replicate k [Value.pointer none]).flatten = _; simp] at h
  exact h

/-- A string as a value of the program. -/
def sv (s : ByteArray) : Value := .iface 74 (.string s)
def nilw : Value := .iface 112 (.int .u8 0)

set_option maxHeartbeats 400000 in
theorem str_type (s : ByteArray) (w : World) : Calls Tryz.prog 185 #[.string s] w fun e w' => e = .returned (.int .i64 3) ∧ w = w' := by
  go_enter Tryz.func185, Tryz.ntmps185
  go_wp2
  go_ret
  exact ⟨rfl, rfl⟩

set_option maxHeartbeats 400000 in
theorem str_string (s : ByteArray) (w : World) : Calls Tryz.prog 184 #[.string s] w fun e w' => e = .returned (.string s) ∧ w = w' := by
  go_enter Tryz.func184, Tryz.ntmps184
  go_wp2
  go_ret
  exact ⟨rfl, rfl⟩

set_option maxHeartbeats 400000 in
theorem nil_type (w : World) : Calls Tryz.prog 206 #[.int .u8 0] w fun e w' => e = .returned (.int .i64 0) ∧ w = w' := by
  go_enter Tryz.func206, Tryz.ntmps206
  go_wp2
  go_ret
  exact ⟨rfl, rfl⟩

set_option maxHeartbeats 400000 in
theorem reads_string (s : ByteArray) (w : World) : Calls Tryz.prog 36 #[sv s, .string s] w fun e w' => e = .returned (.bool true) ∧ w = w' := by
  unfold sv
  go_enter Tryz.func36, Tryz.ntmps36
  go_wp2_with fail
  refine (str_type s _).mono ?_
  rintro e w' ⟨rfl, rfl⟩
  go_wp2_with fail
  refine (str_string s _).mono ?_
  rintro e w' ⟨rfl, rfl⟩
  go_wp2
  go_ret
  exact ⟨rfl, rfl⟩

set_option maxHeartbeats 400000 in
theorem reads_nil (w : World) : Calls Tryz.prog 39 #[nilw] w fun e w' => e = .returned (.bool true) ∧ w = w' := by
  unfold nilw
  go_enter Tryz.func39, Tryz.ntmps39
  go_wp2_with fail
  refine (nil_type _).mono ?_
  rintro e w' ⟨rfl, rfl⟩
  go_wp2
  go_ret
  exact ⟨rfl, rfl⟩

/-- What a closure over fresh cells is. -/
structure Clo (w w' : World) (D n : Nat) (s x : Nat → ByteArray) : Prop where
  upd : Upd (fun _ => False) w w'
  old : w.heap.size ≤ D
  dbg : Blk w' D (tab n fun j => .string (s j)) 9
  ups : Blk w' (D + 1) (tab n fun j => .pointer (some ⟨D + 2 + j, 0, none⟩)) 60
  box : ∀ j, j < n → Blk w' (D + 2 + j) (upv (sv (x j)) false) 104
  pro : Blk w' (D + 2 + n) (proto (some ⟨D, 0, none⟩) n n) 92
  fn : Blk w' (D + 3 + n) (fnc false (some ⟨D + 2 + n, 0, none⟩) (some ⟨D + 1, 0, none⟩) n n) 81

set_option maxHeartbeats 1600000 in
theorem build_closure (aN aV : Option Addr) (k cN m cV n : Nat) (s x : Nat → ByteArray) (w : World) (hn : n ≤ 65536) (h1 : n ≤ k) (h2 : n ≤ m) (hN : Held w w.heap.size aN n fun j => .string (s j)) (hV : Held w w.heap.size aV n fun j => .string (x j)) :
    Calls Tryz.prog 34 #[.slice aN k cN, .slice aV m cV, .int .i64 n] w fun e w' => e = .returned (.pointer (some ⟨w.heap.size + 3 + n, 0, none⟩)) ∧ Clo w w' w.heap.size n s x := by
  have hm := mk_cloneStr n (by omega)
  have hp := mkUps n (by omega)
  have HN := Lib.hid hN
  have HV := Lib.hid hV
  clear hN hV
  go_enter Tryz.func34, Tryz.ntmps34
  go_wp2
  obtain ⟨D, hD⟩ : ∃ D : Nat, w.heap.size = D := ⟨_, rfl⟩
  rw [hD]
  have HD := Lib.hid hD
  clear hD
  go_loopw [9] (fun i wr => ∃ j : Nat, j ≤ n ∧ i = .int .i64 j ∧ Upd (fun _ => False) w wr ∧ wr.heap.size = D + 2 + j ∧ Blk wr D (tab n fun m => .string (if m < j then s m else ByteArray.empty)) 9 ∧
    Blk wr (D + 1) (tab n fun m => .pointer (if m < j then some ⟨D + 2 + m, 0, none⟩ else none)) 60 ∧ ∀ m, m < j → Blk wr (D + 2 + m) (upv (sv (x m)) false) 104) (fun i _ => n - (intOf i).toNat)
  case atStart =>
    have z := HD.out
    exact ⟨0, Nat.zero_le _, rfl, ((Upd.refl _ _).alloc _).alloc _, by simp [z], (Blk.new_at z.symm _ _).alloc _, Blk.new_at (by simp [z]) _ _, fun m hm => absurd hm (by omega)⟩
  case round =>
    obtain ⟨j, hj, rfl, hu, hz, hb, hq, hx⟩ := hrel
    have HU := Lib.hid hu
    have HZ := Lib.hid hz
    have HB := Lib.hid hb
    have HQ := Lib.hid hq
    have HX := Lib.hid hx
    have hd0 : D < wr.heap.size := by omega
    have hd1 : D + 1 < wr.heap.size := by omega
    have hne : D ≠ wr.heap.size := by omega
    have hne1 : D + 1 ≠ wr.heap.size := by omega
    clear hu hz hb hq hx
    by_cases hlt : j < n
    · obtain ⟨b, off, rfl, hbl, hc⟩ := (HN.out.upd HU.out (fun c h => h.elim)) j hlt
      obtain ⟨b2, off2, rfl, hbl2, hc2⟩ := (HV.out.upd HU.out (fun c h => h.elim)) j hlt
      rw [HD.out] at hbl hbl2
      have h2 : wr.cell? ⟨D, j, none⟩ = some (.string ByteArray.empty) := HB.out.at (by rw [tab_in hlt, if_neg (by omega)])
      have h3 := HB.out.free j
      have hbD : b ≠ D := by omega
      have hb2D : b2 ≠ D := by omega
      have hbs : b < wr.heap.size := by omega
      have hb2s : b2 < wr.heap.size := by omega
      have e1 : (0 : Int) ≤ (j : Int) := by omega
      have e2 : (j : Int) < (k : Int) := by omega
      have e3 : (j : Int) < (m : Int) := by omega
      go_wp2_with fail
      have hfr : Blk ((wr.setCell ⟨D, j, none⟩ (.string (s j))).alloc (.cells (upv .nilIface false).toArray 104)) wr.heap.size (upv .nilIface false) 104 := Blk.new_at (by rw [World.size_setCell]) _ _
      refine (uv_set wr.heap.size .nilIface false 74 (.string (x j)) _ (by exact hfr)).mono ?_
      rintro e w' ⟨rfl, hu, hz2, hb⟩
      have HU2 := Lib.hid hu
      have HZ2 := Lib.hid hz2
      have HB2 := Lib.hid hb
      clear hu hb hfr hz2
      have HU1 : Hid (Upd (fun c => c = D ∨ c = wr.heap.size) wr w') := Lib.hid (((Upd.refl (fun c => c = D ∨ c = wr.heap.size) wr).setCell ⟨D, j, none⟩ (.string (s j)) (.inl (.inl rfl))).alloc (.cells (upv .nilIface false).toArray 104) |>.trans (HU2.out.mono (fun _ _ h => .inr h)))
      have c1 : w'.cell? ⟨D + 1, j, none⟩ = some (.pointer none) := (HU1.out.blk HQ.out (by omega)).at (by rw [tab_in hlt, if_neg (by omega)])
      have c2 := (HU1.out.blk HQ.out (by omega)).free j
      go_wp2
      go_roundw
      case rel =>
        have z := HZ.out
        refine ⟨j + 1, by omega, by go_num, ((HU.out.trans_new HU1.out (fun c h => by have hd := HD.out; rcases h with h | h <;> omega)).setCell _ _ (.inr (by show w.heap.size ≤ D + 1; have hd := HD.out; omega))), ?_, ?_, ?_, ?_⟩
        · rw [World.size_setCell, HZ2.out, World.size_alloc, World.size_setCell, z]; omega
        · have h := HU2.out.blk ((HB.out.set j (.string (s j))).alloc (.cells (upv .nilIface false).toArray 104)) (by omega)
          rw [tab_set] at h
          rw [tab_congr (g := fun m => if m = j then Value.string (s j) else .string (if m < j then s m else ByteArray.empty))]
          · exact h.set_other _ _ (by show D ≠ D + 1; omega)
          · intro m _
            by_cases e : m = j
            · subst e; rw [if_pos rfl, if_pos (by omega)]
            · rw [if_neg e]
              by_cases e2 : m < j
              · rw [if_pos e2, if_pos (by omega)]
              · rw [if_neg e2, if_neg (by omega)]
        · have h := (HU1.out.blk HQ.out (by omega)).set j (.pointer (some ⟨wr.heap.size, 0, none⟩))
          rw [tab_set] at h
          rw [tab_congr (g := fun m => if m = j then Value.pointer (some ⟨wr.heap.size, 0, none⟩) else .pointer (if m < j then some ⟨D + 2 + m, 0, none⟩ else none))]
          · exact h
          · intro m _
            by_cases e : m = j
            · subst e; rw [if_pos rfl, if_pos (by omega), z]
            · rw [if_neg e]
              by_cases e2 : m < j
              · rw [if_pos e2, if_pos (by omega)]
              · rw [if_neg e2, if_neg (by omega)]
        · intro m hm
          by_cases e : m = j
          · subst e
            have h := HB2.out
            rw [z] at h
            exact h.set_other _ _ (by show D + 2 + m ≠ D + 1; omega)
          · exact (HU1.out.blk (HX.out m (by omega)) (by omega)).set_other _ _ (by show D + 2 + m ≠ D + 1; omega)
      case measure => simp [intOf]; omega
    · obtain rfl : j = n := by omega
      go_wp2
      go_ret
      have z := HZ.out
      have hd := HD.out
      subst hd
      have e1 : w.heap.size + 2 + j = wr.heap.size := z.symm
      refine ⟨by show Ending.returned (.pointer (some ⟨wr.heap.size + 1, 0, none⟩)) = _; rw [show wr.heap.size + 1 = w.heap.size + 3 + j by omega], (HU.out.alloc _).alloc _, Nat.le_refl _, ?_, ?_, fun m hm => ((HX.out m hm).alloc _).alloc _, ?_, ?_⟩
      · have h := HB.out
        rw [tab_congr (g := fun m => Value.string (s m)) (fun m hm => by rw [if_pos hm])] at h
        exact (h.alloc _).alloc _
      · have h := HQ.out
        rw [tab_congr (g := fun m => Value.pointer (some ⟨w.heap.size + 2 + m, 0, none⟩)) (fun m hm => by rw [if_pos hm])] at h
        exact (h.alloc _).alloc _
      · exact (Blk.new_at e1 (proto (some ⟨w.heap.size, 0, none⟩) j j) 92).alloc _
      · have h := Blk.new_at (w := wr.alloc (.cells (proto (some ⟨w.heap.size, 0, none⟩) j j).toArray 92)) (b := w.heap.size + 3 + j) (by rw [World.size_alloc]; omega) (fnc false (some ⟨wr.heap.size, 0, none⟩) (some ⟨w.heap.size + 1, 0, none⟩) j j) 81
        rw [e1]
        exact h
end Go.Proofs.YtejhfhcndpehiaaGreatFmt
