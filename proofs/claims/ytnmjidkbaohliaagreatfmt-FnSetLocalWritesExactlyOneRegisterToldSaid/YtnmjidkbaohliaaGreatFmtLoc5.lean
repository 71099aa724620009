/- The methods that find a frame and its locals, walked. -/
import Derived.Test.YtnmjidkbaohliaaGreatFmtLoc4
namespace Go.Proofs.YtnmjidkbaohliaaGreatFmt
open Go.RowKit
set_option maxRecDepth 100000

theorem Loc.drewN {w w' : World} {A R S n k : Nat} {f : Nat → Int} {v : Nat → Value} (h : Loc w w' A R S n k f v) (m : Nat) : Loc w (w'.drewN m) A R S n k f v :=
  ⟨h.upd.drewN m, h.old, h.hR, h.hS, h.fr, h.st, h.fn, h.rg, h.gg, h.ss⟩
theorem Loc.next {w w' w2 : World} {A R S n k : Nat} {f : Nat → Int} {v : Nat → Value} (h : Loc w w' A R S n k f v) (hu : Upd (fun _ => False) w' w2) : Loc w w2 A R S n k f v :=
  ⟨h.upd.trans hu, h.old, h.hR, h.hS, hu.blk h.fr (fun h => h), hu.blk h.st (fun h => h), hu.blk h.fn (fun h => h), hu.blk h.rg (fun h => h), hu.blk h.gg (fun h => h), hu.blk h.ss (fun h => h)⟩
/-- What a frame's cell holds. -/
theorem Loc.frame {w w' : World} {A R S n k : Nat} {f : Nat → Int} {v : Nat → Value} (h : Loc w w' A R S n k f v) {i c : Nat} (hi : i < k) (hc : c < 10) {x : Value} (hx : (frs A f i)[c]? = some x) : w'.cell? ⟨A, i * 10 + c, none⟩ = some x :=
  h.fr.at (by rw [rws_at (fun i _ => frs_len A f i) hi hc, hx])

/-- The frame that a level asks for. -/
def lvl (k : Nat) (lv : Int) : Nat := if lv < 0 then 0 else k - 1 - lv.toNat

/-- What GetStack's answer holds. -/
def dbg (a : Addr) : List Value := [.pointer (some a), .string ByteArray.empty, .string ByteArray.empty, .string ByteArray.empty, .int .i64 0, .int .i64 0, .int .i64 0, .int .i64 0]
/-- A pointer to a frame comes back in a new block, and true. -/
def Found (w : World) (A i : Nat) (e : Ending) (w' : World) : Prop := ∃ D, e = .returned (.tuple #[.pointer (some ⟨D, 0, none⟩), .bool true]) ∧ Upd (fun _ => False) w w' ∧ w.heap.size ≤ D ∧ Blk w' D (dbg ⟨A, i * 10, none⟩) 124

@[go_sem] theorem eq66nil (a : Addr) (w : World) : (binOp .neq 66 (.pointer (some a)) (.pointer none)).run Tryz.prog w = .ok (.bool true) w := by kernel_rfl

set_option maxHeartbeats 1600000 in
theorem get_stack (A R S n k : Nat) (f : Nat → Int) (v : Nat → Value) (lv : Int) (w0 w : World) (hk : k ≤ 4096) (hk0 : 0 < k) (hlv : lv < k) (hL : Loc w0 w A R S n k f v) :
    Calls Tryz.prog 38 #[.pointer (some ⟨S, 0, none⟩), .int .i64 lv] w (Found w A (lvl k lv)) := by
  have s16 := hL.ss.at (o := 16) rfl
  have s14 := hL.ss.at (o := 14) rfl
  have HL := Lib.hid hL
  clear hL
  have hb : below A k = some ⟨A, (k - 1) * 10, none⟩ := by unfold below; rw [if_neg (by omega)]
  rw [hb] at s16
  clear hb
  obtain ⟨K, rfl⟩ : ∃ K, k = K + 1 := ⟨k - 1, by omega⟩
  rw [Nat.add_sub_cancel] at s16
  by_cases hneg : lv < 0
  · have hl : lvl (K + 1) lv = 0 := by unfold lvl; rw [if_pos hneg]
    rw [hl]
    clear hl hlv
    go_enter Tryz.func38, Tryz.ntmps38
    go_wp2_with fail
    go_loopw [1, 6] (fun l c wr => l = .int .i64 lv ∧ c = .pointer (some ⟨A, K * 10, none⟩) ∧ wr = w) (fun _ _ _ => 0)
    case atStart => exact ⟨rfl, rfl, rfl⟩
    case round =>
      obtain ⟨rfl, rfl, rfl⟩ := hrel
      have HB := Lib.hid HL.out.st
      go_wp2_with (first | (go_at_call 236; refine (stk_sp (A + 1) A (K + 1) _ _ (by exact HB.out)).mono ?_; rintro e w' ⟨rfl, rfl⟩) | (go_at_call 227; refine (stk_at (A + 1) A (K + 1) 0 _ _ (by omega) (by exact HB.out)).mono ?_; rintro e w' ⟨rfl, rfl⟩))
      go_ret2
      exact ⟨_, rfl, (Upd.refl _ _).alloc _, Nat.le_refl _, by rw [Nat.zero_mul]; exact Blk.new w' (dbg ⟨A, 0, none⟩) 124⟩
  · obtain ⟨m, rfl⟩ : ∃ m : Nat, lv = m := ⟨lv.toNat, by omega⟩
    obtain ⟨d, rfl⟩ : ∃ d, K = d + m := ⟨K - m, by omega⟩
    have hl : lvl (d + m + 1) m = d := by unfold lvl; rw [if_neg hneg]; omega
    rw [hl]
    clear hl hlv hneg
    go_enter Tryz.func38, Tryz.ntmps38
    go_wp2_with fail
    go_loopw [1, 6] (fun l c wr => ∃ r : Nat, r ≤ m ∧ l = .int .i64 r ∧ c = .pointer (some ⟨A, (d + r) * 10, none⟩) ∧ wr = w) (fun l _ _ => (intOf l).toNat)
    case atStart => exact ⟨m, Nat.le_refl _, rfl, rfl, rfl⟩
    case round =>
      obtain ⟨r, hr, rfl, rfl, rfl⟩ := hrel
      cases r with
      | zero =>
        go_wp2
        go_ret2
        exact ⟨_, rfl, (Upd.refl _ _).alloc _, Nat.le_refl _, Blk.new _ (dbg ⟨A, d * 10, none⟩) 124⟩
      | succ q =>
        have c1 := HL.out.frame (i := d + (q + 1)) (c := 1) (by omega) (by omega) rfl
        have c2 := HL.out.frame (i := d + (q + 1)) (c := 2) (by omega) (by omega) rfl
        have g0 := HL.out.fn.at (o := 0) rfl
        have hb : below A (d + (q + 1)) = some ⟨A, (d + q) * 10, none⟩ := by unfold below; rw [if_neg (by omega)]; rfl
        rw [hb] at c2
        clear hb
        go_wp2
        go_roundw
        case rel => exact ⟨q, by omega, by go_num, by simp⟩
        case measure => simp [intOf]
set_option maxHeartbeats 400000 in
theorem idx39 (k : Nat) (lv : Int) (w : World) (hk : k ≤ 4096) (hk0 : 0 < k) (hlv : lv < k) :
    Calls Tryz.prog 39 #[.int .i64 k, .int .i64 lv] w fun e w' => e = .returned (.int .i64 (lvl k lv : Nat)) ∧ w = w' := by
  by_cases hneg : lv < 0
  · have hl : lvl k lv = 0 := by unfold lvl; rw [if_pos hneg]
    rw [hl]
    clear hl hlv
    go_enter Tryz.func39, Tryz.ntmps39
    go_wp2
    go_ret
    exact ⟨rfl, rfl⟩
  · obtain ⟨m, rfl⟩ : ∃ m : Nat, lv = m := ⟨lv.toNat, by omega⟩
    obtain ⟨d, rfl⟩ : ∃ d, k = d + m + 1 := ⟨k - 1 - m, by omega⟩
    have hl : lvl (d + m + 1) m = d := by unfold lvl; rw [if_neg hneg]; omega
    rw [hl]
    clear hl hlv
    go_enter Tryz.func39, Tryz.ntmps39
    go_wp2
    go_ret
    exact ⟨rfl, rfl⟩

/-- Where the i-th frame's registers end. -/
def upper (n k : Nat) (f : Nat → Int) (i : Nat) : Int := if i + 1 < k then f (i + 1) else n

set_option maxHeartbeats 800000 in
theorem window40 (aV aB : Option Addr) (n cV k cB i : Nat) (f : Nat → Int) (w : World) (hn : n ≤ 65536) (hk : k ≤ 4096) (hi : i < k) (hf : ∀ i, i < k → 0 ≤ f i ∧ f i ≤ 65536) (hB : Cells w aB k fun j => .int .i64 (f j)) :
    Calls Tryz.prog 40 #[.slice aV n cV, .slice aB k cB, .int .i64 i] w fun e w' => e = .returned (.tuple #[.int .i64 (f i + 1), .int .i64 (upper n k f i - (f i + 1))]) ∧ w = w' := by
  obtain ⟨b, off, rfl, c0⟩ := hB.one hi
  have f0 := hf i hi
  by_cases hl : i + 1 < k
  · have f1 := hf (i + 1) hl
    obtain ⟨y, hy, c1⟩ := hB (i + 1) hl
    obtain rfl := Option.some.inj hy
    rw [Addr.add_mid] at c1
    have hu : upper n k f i = f (i + 1) := if_pos hl
    rw [hu]
    clear hu hB hf hy
    go_enter Tryz.func40, Tryz.ntmps40
    go_wp2
    go_ret2
    exact ⟨rfl, rfl⟩
  · have hu : upper n k f i = n := if_neg hl
    rw [hu]
    clear hu hB hf
    go_enter Tryz.func40, Tryz.ntmps40
    go_wp2
    go_ret2
    exact ⟨rfl, rfl⟩
end Go.Proofs.YtnmjidkbaohliaaGreatFmt
