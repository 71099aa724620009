/- The guards of the n005_62 laws, the slot that an index names: walked. -/
import Derived.Test.YtejhfhcndpehiaaGreatFmtKind4
import Derived.Lib.Builder
namespace Go.Proofs.YtejhfhcndpehiaaGreatFmt
open Go.RowKit
set_option maxRecDepth 100000

/-- The state of these laws when it stands. -/
structure Fin (w wr : World) (S G R A RT GT E Tb Fb Ub Hb k : Nat) (K o : Nat → Nat) (x : Nat → Value) : Prop where
  upd : Upd (fun _ => False) w wr
  old : w.heap.size ≤ S
  st : Sta wr S G R A RT GT E k k (fun m => item (K m) (o m) (x m))
  tb : Blk wr Tb (tab k fun m => .pointer (pick 2 (K m) (o m))) 34
  fb : Blk wr Fb (tab k fun m => .pointer (pick 3 (K m) (o m))) 36
  ub : Blk wr Ub (tab k fun m => .pointer (pick 4 (K m) (o m))) 38
  hb : Blk wr Hb (tab k fun m => .pointer (pick 5 (K m) (o m))) 25
  ord : S < Tb ∧ S < Fb ∧ S < Ub ∧ S < Hb

theorem tab_done {α : Type} (k : Nat) (f : Nat → α) (z : α) : (tab k fun m => if m < k then f m else z) = tab k f := tab_congr fun _ hm => if_pos hm

theorem Bld.fin {w wr : World} {S G R A RT GT Tb Fb Ub Hb k : Nat} {K o : Nat → Nat} {x : Nat → Value} (h : Bld w wr S G R A RT GT Tb Fb Ub Hb k k K o x) : Fin w wr S G R A RT GT GT Tb Fb Ub Hb k K o x := by
  obtain ⟨o1, o2, o3, o4⟩ := h.ord
  have o5 := h.st.ord
  have old := h.old
  have ar := h.st.ar
  rw [tab_done] at ar
  have tb : Blk wr Tb (tab k fun m => .pointer (pick 2 (K m) (o m))) 34 := by
    have h := h.tb
    rw [tab_congr (g := fun m => Value.pointer (pick 2 (K m) (o m))) (fun m hm => by rw [if_pos hm])] at h
    exact h
  have fb : Blk wr Fb (tab k fun m => .pointer (pick 3 (K m) (o m))) 36 := by
    have h := h.fb
    rw [tab_congr (g := fun m => Value.pointer (pick 3 (K m) (o m))) (fun m hm => by rw [if_pos hm])] at h
    exact h
  have ub : Blk wr Ub (tab k fun m => .pointer (pick 4 (K m) (o m))) 38 := by
    have h := h.ub
    rw [tab_congr (g := fun m => Value.pointer (pick 4 (K m) (o m))) (fun m hm => by rw [if_pos hm])] at h
    exact h
  have hb : Blk wr Hb (tab k fun m => .pointer (pick 5 (K m) (o m))) 25 := by
    have h := h.hb
    rw [tab_congr (g := fun m => Value.pointer (pick 5 (K m) (o m))) (fun m hm => by rw [if_pos hm])] at h
    exact h
  exact ⟨h.upd, by omega, ⟨h.st.ord, h.st.st, h.st.g, h.st.rg, ar⟩, tb, fb, ub, hb, by omega, by omega, by omega, by omega⟩

theorem Fin.drewN {w wr : World} {S G R A RT GT E Tb Fb Ub Hb k : Nat} {K o : Nat → Nat} {x : Nat → Value} (h : Fin w wr S G R A RT GT E Tb Fb Ub Hb k K o x) (n : Nat) : Fin w (wr.drewN n) S G R A RT GT E Tb Fb Ub Hb k K o x :=
  ⟨h.upd.drewN n, h.old, ⟨h.st.ord, h.st.st, h.st.g, h.st.rg, h.st.ar⟩, h.tb, h.fb, h.ub, h.hb, h.ord⟩

theorem infoTab : ∃ j, Tryz.prog.info? 50 = some j := Option.isSome_iff_exists.1 (by kernel_rfl)
@[go_sem] theorem neTab (p : Option Addr) (w : World) : (binOp .neq 34 (.pointer p) (.pointer p)).run Tryz.prog w = .ok (.bool false) w := by
  cases p with
  | none => kernel_rfl
  | some a =>
    obtain ⟨j, hj⟩ := infoTab
    exact Lib.run_neq_ptr_same w a Tryz.underlying34 hj

theorem infoFn : ∃ j, Tryz.prog.info? 81 = some j := Option.isSome_iff_exists.1 (by kernel_rfl)
@[go_sem] theorem neFn (p : Option Addr) (w : World) : (binOp .neq 36 (.pointer p) (.pointer p)).run Tryz.prog w = .ok (.bool false) w := by
  cases p with
  | none => kernel_rfl
  | some a =>
    obtain ⟨j, hj⟩ := infoFn
    exact Lib.run_neq_ptr_same w a Tryz.underlying36 hj

theorem infoUd : ∃ j, Tryz.prog.info? 97 = some j := Option.isSome_iff_exists.1 (by kernel_rfl)
@[go_sem] theorem neUd (p : Option Addr) (w : World) : (binOp .neq 38 (.pointer p) (.pointer p)).run Tryz.prog w = .ok (.bool false) w := by
  cases p with
  | none => kernel_rfl
  | some a =>
    obtain ⟨j, hj⟩ := infoUd
    exact Lib.run_neq_ptr_same w a Tryz.underlying38 hj

theorem infoTh : ∃ j, Tryz.prog.info? 63 = some j := Option.isSome_iff_exists.1 (by kernel_rfl)
@[go_sem] theorem neTh (p : Option Addr) (w : World) : (binOp .neq 25 (.pointer p) (.pointer p)).run Tryz.prog w = .ok (.bool false) w := by
  cases p with
  | none => kernel_rfl
  | some a =>
    obtain ⟨j, hj⟩ := infoTh
    exact Lib.run_neq_ptr_same w a Tryz.underlying25 hj

/-- Some bool comes back. -/
def SomeBool (w : World) (e : Ending) (w' : World) : Prop := ∃ b, e = .returned (.bool b) ∧ w = w'

set_option maxHeartbeats 400000 in
theorem zzTableS (aK : Option Addr) (k cK : Nat) (w : World) (hk : k ≤ 65536) :
    Calls Tryz.prog 18 #[.slice aK k cK] w fun e w' => e = .returned (.bool true) ∧ w = w' := by
  go_enter Tryz.func18, Tryz.ntmps18
  go_wp2
  go_ret
  exact ⟨rfl, rfl⟩

set_option maxHeartbeats 400000 in
theorem zzTableS_any (aK : Option Addr) (k cK : Nat) (w : World) (hk : k ≤ 9223372036854775807) :
    Calls Tryz.prog 18 #[.slice aK k cK] w (SomeBool w) := by
  by_cases h1 : k ≤ 1048576
  all_goals
    go_enter Tryz.func18, Tryz.ntmps18
    go_wp2
    all_goals (go_ret; exact ⟨_, rfl, rfl⟩)

set_option maxHeartbeats 400000 in
theorem zzTableW (aK : Option Addr) (k cK : Nat) (n : Int) (w : World) (hk : k ≤ 65536) :
    Calls Tryz.prog 29 #[.slice aK k cK, .int .i64 n] w fun e w' => e = .returned (.bool true) ∧ w = w' := by
  go_enter Tryz.func29, Tryz.ntmps29
  go_wp2
  go_ret
  exact ⟨rfl, rfl⟩

set_option maxHeartbeats 400000 in
theorem zzTableW_any (aK : Option Addr) (k cK : Nat) (n : Int) (w : World) (hk : k ≤ 9223372036854775807) :
    Calls Tryz.prog 29 #[.slice aK k cK, .int .i64 n] w (SomeBool w) := by
  by_cases h1 : k ≤ 1048576
  all_goals
    go_enter Tryz.func29, Tryz.ntmps29
    go_wp2
    all_goals (go_ret; exact ⟨_, rfl, rfl⟩)

set_option maxHeartbeats 400000 in
theorem zzFunctionS (aK : Option Addr) (k cK : Nat) (w : World) (hk : k ≤ 65536) :
    Calls Tryz.prog 20 #[.slice aK k cK] w fun e w' => e = .returned (.bool true) ∧ w = w' := by
  go_enter Tryz.func20, Tryz.ntmps20
  go_wp2
  go_ret
  exact ⟨rfl, rfl⟩

set_option maxHeartbeats 400000 in
theorem zzFunctionS_any (aK : Option Addr) (k cK : Nat) (w : World) (hk : k ≤ 9223372036854775807) :
    Calls Tryz.prog 20 #[.slice aK k cK] w (SomeBool w) := by
  by_cases h1 : k ≤ 1048576
  all_goals
    go_enter Tryz.func20, Tryz.ntmps20
    go_wp2
    all_goals (go_ret; exact ⟨_, rfl, rfl⟩)

set_option maxHeartbeats 400000 in
theorem zzFunctionW (aK : Option Addr) (k cK : Nat) (n : Int) (w : World) (hk : k ≤ 65536) :
    Calls Tryz.prog 27 #[.slice aK k cK, .int .i64 n] w fun e w' => e = .returned (.bool true) ∧ w = w' := by
  go_enter Tryz.func27, Tryz.ntmps27
  go_wp2
  go_ret
  exact ⟨rfl, rfl⟩

set_option maxHeartbeats 400000 in
theorem zzFunctionW_any (aK : Option Addr) (k cK : Nat) (n : Int) (w : World) (hk : k ≤ 9223372036854775807) :
    Calls Tryz.prog 27 #[.slice aK k cK, .int .i64 n] w (SomeBool w) := by
  by_cases h1 : k ≤ 1048576
  all_goals
    go_enter Tryz.func27, Tryz.ntmps27
    go_wp2
    all_goals (go_ret; exact ⟨_, rfl, rfl⟩)

set_option maxHeartbeats 400000 in
theorem zzUserDataS (aK : Option Addr) (k cK : Nat) (w : World) (hk : k ≤ 65536) :
    Calls Tryz.prog 22 #[.slice aK k cK] w fun e w' => e = .returned (.bool true) ∧ w = w' := by
  go_enter Tryz.func22, Tryz.ntmps22
  go_wp2
  go_ret
  exact ⟨rfl, rfl⟩

set_option maxHeartbeats 400000 in
theorem zzUserDataS_any (aK : Option Addr) (k cK : Nat) (w : World) (hk : k ≤ 9223372036854775807) :
    Calls Tryz.prog 22 #[.slice aK k cK] w (SomeBool w) := by
  by_cases h1 : k ≤ 1048576
  all_goals
    go_enter Tryz.func22, Tryz.ntmps22
    go_wp2
    all_goals (go_ret; exact ⟨_, rfl, rfl⟩)

set_option maxHeartbeats 400000 in
theorem zzUserDataW (aK : Option Addr) (k cK : Nat) (n : Int) (w : World) (hk : k ≤ 65536) :
    Calls Tryz.prog 28 #[.slice aK k cK, .int .i64 n] w fun e w' => e = .returned (.bool true) ∧ w = w' := by
  go_enter Tryz.func28, Tryz.ntmps28
  go_wp2
  go_ret
  exact ⟨rfl, rfl⟩

set_option maxHeartbeats 400000 in
theorem zzUserDataW_any (aK : Option Addr) (k cK : Nat) (n : Int) (w : World) (hk : k ≤ 9223372036854775807) :
    Calls Tryz.prog 28 #[.slice aK k cK, .int .i64 n] w (SomeBool w) := by
  by_cases h1 : k ≤ 1048576
  all_goals
    go_enter Tryz.func28, Tryz.ntmps28
    go_wp2
    all_goals (go_ret; exact ⟨_, rfl, rfl⟩)

set_option maxHeartbeats 400000 in
theorem zzThreadS (aK : Option Addr) (k cK : Nat) (w : World) (hk : k ≤ 65536) :
    Calls Tryz.prog 13 #[.slice aK k cK] w fun e w' => e = .returned (.bool true) ∧ w = w' := by
  go_enter Tryz.func13, Tryz.ntmps13
  go_wp2
  go_ret
  exact ⟨rfl, rfl⟩

set_option maxHeartbeats 400000 in
theorem zzThreadS_any (aK : Option Addr) (k cK : Nat) (w : World) (hk : k ≤ 9223372036854775807) :
    Calls Tryz.prog 13 #[.slice aK k cK] w (SomeBool w) := by
  by_cases h1 : k ≤ 1048576
  all_goals
    go_enter Tryz.func13, Tryz.ntmps13
    go_wp2
    all_goals (go_ret; exact ⟨_, rfl, rfl⟩)

set_option maxHeartbeats 400000 in
theorem zzThreadW (aK : Option Addr) (k cK : Nat) (n : Int) (w : World) (hk : k ≤ 65536) :
    Calls Tryz.prog 24 #[.slice aK k cK, .int .i64 n] w fun e w' => e = .returned (.bool true) ∧ w = w' := by
  go_enter Tryz.func24, Tryz.ntmps24
  go_wp2
  go_ret
  exact ⟨rfl, rfl⟩

set_option maxHeartbeats 400000 in
theorem zzThreadW_any (aK : Option Addr) (k cK : Nat) (n : Int) (w : World) (hk : k ≤ 9223372036854775807) :
    Calls Tryz.prog 24 #[.slice aK k cK, .int .i64 n] w (SomeBool w) := by
  by_cases h1 : k ≤ 1048576
  all_goals
    go_enter Tryz.func24, Tryz.ntmps24
    go_wp2
    all_goals (go_ret; exact ⟨_, rfl, rfl⟩)

/-- Some number L: the least index with a negative twin is L + 1. -/
def Low (k : Nat) (w : World) (e : Ending) (w' : World) : Prop := ∃ L : Nat, e = .returned (.int .i64 ((L : Int) + 1)) ∧ w = w' ∧ L ≤ k ∧ k < L + 10000

set_option maxHeartbeats 400000 in
theorem zzlo (k : Nat) (w : World) (hk : k ≤ 65536) :
    Calls Tryz.prog 16 #[.int .i64 k] w (Low k w) := by
  by_cases h : 9999 < k
  · obtain ⟨L, rfl⟩ : ∃ L, k = L + 9999 := ⟨k - 9999, by omega⟩
    go_enter Tryz.func16, Tryz.ntmps16
    go_wp2
    go_ret
    exact ⟨L, by go_num, rfl, by omega, by omega⟩
  · go_enter Tryz.func16, Tryz.ntmps16
    go_wp2
    go_ret
    exact ⟨0, rfl, rfl, by omega, by omega⟩

set_option maxHeartbeats 400000 in
theorem slot_at (k m : Nat) (w : World) (hk : k ≤ 65536) (hm : m < k) :
    Calls Tryz.prog 25 #[.int .i64 ((m : Int) + 1), .int .i64 k] w fun e w' => e = .returned (.int .i64 m) ∧ w = w' := by
  go_enter Tryz.func25, Tryz.ntmps25
  go_wp2
  go_ret
  exact ⟨rfl, rfl⟩

set_option maxHeartbeats 400000 in
theorem slot_neg (k m : Nat) (w : World) (hk : k ≤ 65536) (hm : m < k) (hl : k < m + 10000) :
    Calls Tryz.prog 25 #[.int .i64 ((m : Int) - k), .int .i64 k] w fun e w' => e = .returned (.int .i64 m) ∧ w = w' := by
  have e0 : (m : Int) - k < 0 := by omega
  have e1 : (-10000 : Int) < (m : Int) - k := by omega
  have b0 : ((m : Int) - (k : Int) == 0) = false := by simp; omega
  have b1 : decide ((m : Int) - (k : Int) ≤ -10000) = false := decide_eq_false (by omega)
  have b2 : decide ((k : Int) < -((m : Int) - (k : Int))) = false := decide_eq_false (by omega)
  go_enter Tryz.func25, Tryz.ntmps25
  go_wp2
  all_goals first | (go_ret; exact ⟨by (rw [show ((k : Int) + ((m : Int) - (k : Int))) = (m : Int) by omega]; rfl), rfl⟩) | (exfalso; omega)

set_option maxHeartbeats 400000 in
theorem slot_none (k : Nat) (n : Int) (w : World) (h1 : -10002 ≤ n) (h2 : n ≤ 9223372036854775807) (h : n = 0 ∨ n ≤ -10000 ∨ (k : Int) < n ∨ n < -(k : Int)) :
    Calls Tryz.prog 25 #[.int .i64 n, .int .i64 k] w fun e w' => e = .returned (.int .i64 (-1)) ∧ w = w' := by
  by_cases h0 : n = 0
  · subst h0
    clear h h1 h2
    go_enter Tryz.func25, Tryz.ntmps25
    go_wp2
    go_ret
    exact ⟨rfl, rfl⟩
  · by_cases hp : 0 < n
    · have hq : (k : Int) < n := by omega
      clear h h0
      go_enter Tryz.func25, Tryz.ntmps25
      go_wp2
      go_ret
      exact ⟨rfl, rfl⟩
    · by_cases hl : n ≤ -10000
      · have hq : n < 0 := by omega
        clear h h0 hp
        go_enter Tryz.func25, Tryz.ntmps25
        go_wp2
        all_goals first | (go_ret; exact ⟨rfl, rfl⟩) | (exfalso; omega)
      · have hq : n < 0 := by omega
        have hr : (k : Int) < -n := by omega
        have hs : -10000 < n := by omega
        have b0 : (n == 0) = false := by simp; omega
        have b1 : decide (n ≤ -10000) = false := decide_eq_false (by omega)
        have b2 : decide ((k : Int) < -n) = true := decide_eq_true (by omega)
        clear h h0 hp hl
        go_enter Tryz.func25, Tryz.ntmps25
        go_wp2
        all_goals first | (go_ret; exact ⟨rfl, rfl⟩) | (exfalso; omega)
end Go.Proofs.YtejhfhcndpehiaaGreatFmt
