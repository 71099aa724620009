/- SetLocal and GetLocal, walked. -/
import Derived.Test.YtnmjidkbaohliaaGreatFmtLoc6
namespace Go.Proofs.YtnmjidkbaohliaaGreatFmt
open Go.RowKit
set_option maxRecDepth 100000

/-- How many locals the i-th frame has. -/
def count (n k : Nat) (f : Nat → Int) (i : Nat) : Int := upper n k f i - (f i + 1)

theorem found (A R S n k i : Nat) (f : Nat → Int) (v : Nat → Value) (no : Int) (w0 w : World) (hn : n ≤ 65536) (hk : k ≤ 4096) (hi : i < k) (hf : ∀ i, i < k → 0 ≤ f i ∧ f i < n) (hL : Loc w0 w A R S n k f v) :
    Calls Tryz.prog 60 #[.pointer (some ⟨S, 0, none⟩), .pointer (some ⟨A, i * 10, none⟩), .int .i64 no] w fun e w' => e = .returned (.string (if no ≤ count n k f i then tmpS else ByteArray.empty)) ∧ Upd (fun _ => False) w w' := by
  have f0 := hf i hi
  by_cases h : i + 1 < k
  · have f1 := hf (i + 1) h
    have := find_mid A R S n k i f v no w0 w hk h (by omega) (by omega) hL
    rw [show count n k f i = f (i + 1) - (f i + 1) by unfold count upper; rw [if_pos h]]
    exact this
  · obtain rfl : k = i + 1 := by omega
    have := find_last A R S n i f v no w0 w hn (by omega) (by omega) hL
    rw [show count n (i + 1) f i = (n : Int) - (f i + 1) by unfold count upper; rw [if_neg h]]
    exact this

theorem count_le {n k i : Nat} {f : Nat → Int} (hf : ∀ i, i < k → 0 ≤ f i ∧ f i < n) : f i + 1 + count n k f i ≤ n := by
  unfold count upper
  by_cases h : i + 1 < k
  · rw [if_pos h]; have := hf (i + 1) h; omega
  · rw [if_neg h]; omega

/-- The registers behind a store. -/
def put (v : Nat → Value) (m : Nat) (x : Value) : Nat → Value := fun q => if q = m then x else v q

theorem Loc.put {w w' w2 : World} {A R S n k m : Nat} {f : Nat → Int} {v : Nat → Value} {x : Value} (h : Loc w w' A R S n k f v) (hu : Upd (fun c => c = R + 1 ∨ c = R) w' w2) (hg : Blk w2 (R + 1) (rgs R n n) 136) (hr : Blk w2 R (tab n (put v m x)) 56) : Loc w w2 A R S n k f (put v m x) := by
  have h1 := h.hR
  have h2 := h.hS
  have h3 := h.old
  refine ⟨h.upd.trans_new hu (fun i e => by rcases e with e | e <;> omega), h.old, h.hR, h.hS, hu.blk h.fr (by omega), hu.blk h.st (by omega), hu.blk h.fn (by omega), hr, hg, hu.blk h.ss (by omega)⟩

@[go_sem] theorem tmp_size : (tmpS).size = 12 := rfl

set_option maxHeartbeats 800000 in
theorem set_local_in (A R S D n k i m : Nat) (f : Nat → Int) (v : Nat → Value) (no : Int) (t : TypeId) (x : Value) (w0 w : World) (hn : n ≤ 65536) (hk : k ≤ 4096) (hi : i < k) (hf : ∀ i, i < k → 0 ≤ f i ∧ f i < n) (hc : no ≤ count n k f i) (hm : f i + no = m)
    (hL : Loc w0 w A R S n k f v) (hD : Blk w D (dbg ⟨A, i * 10, none⟩) 124) :
    Calls Tryz.prog 41 #[.pointer (some ⟨S, 0, none⟩), .pointer (some ⟨D, 0, none⟩), .int .i64 no, .iface t x] w fun e w' => e = .returned (.string tmpS) ∧ Upd (fun c => c = R + 1 ∨ c = R) w w' ∧ Loc w0 w' A R S n k f (put v m (.iface t x)) := by
  have d0 := hD.at (o := 0) rfl
  have HL := Lib.hid hL
  have HF := Lib.hid hf
  have hle := count_le (i := i) hf
  have f0 := hf i hi
  have hmn : m < n := by omega
  clear hL hD hf
  go_enter Tryz.func41, Tryz.ntmps41
  go_wp2_with fail
  refine (found A R S n k i f v no w0 _ hn hk hi HF.out HL.out).mono ?_
  rw [if_pos hc]
  rintro e w1 ⟨rfl, hu⟩
  have HU1 := Lib.hid hu
  have HL1 := Lib.hid (HL.out.next hu)
  clear hu HL d0
  go_wp2_with fail
  refine wp_region_tail_at 12 (by kernel_rfl) (by kernel_rfl) (fun W1 hW1 => ?_)
  have HU2 := Lib.hid (show Upd (fun _ => False) w W1 by rw [hW1]; exact HU1.out.drew)
  have HL2 := Lib.hid (show Loc w0 W1 A R S n k f v by rw [hW1]; exact HL1.out.next ((Upd.refl _ _).drew))
  clear hW1 HL1 HU1
  have s13 := HL2.out.ss.at (o := 13) rfl
  have c5 := HL2.out.frame (i := i) (c := 5) hi (by omega) rfl
  have hw1 : IntKind.i64.wrap (f i + 1 + no) = f i + 1 + no := IntWalk.i64_in _ (by omega)
  have hw2 : IntKind.i64.wrap (f i + 1 + no - 1) = (m : Int) := by rw [IntWalk.i64_in _ (by omega)]; omega
  simp only [List.take_succ_cons, List.take_zero, List.drop_succ_cons, List.drop_zero]
  repeat still_step
  refine wpStill_nil ?_
  go_wp2_with fail
  refine (reg_set (R + 1) R n m n t x v _ hmn hn (by omega) HL2.out.gg HL2.out.rg).mono ?_
  rintro e w3 ⟨rfl, hu, hg, hr⟩
  have hra : raise n m = n := by unfold raise; rw [if_neg (by omega)]
  rw [hra] at hg
  have HU3 := Lib.hid (show Upd (fun c => c = R + 1 ∨ c = R) w w3 from (HU2.out.mono (fun _ _ h => h.elim)).trans hu)
  have HL3 := Lib.hid (HL2.out.put hu hg hr)
  clear hu hg hr HL2 HU2 hra s13 c5 hw1 hw2
  go_wp2
  go_ret
  exact ⟨rfl, HU3.out, HL3.out⟩

set_option maxHeartbeats 800000 in
theorem set_local_out (A R S D n k i : Nat) (f : Nat → Int) (v : Nat → Value) (no : Int) (t : TypeId) (x : Value) (w0 w : World) (hn : n ≤ 65536) (hk : k ≤ 4096) (hi : i < k) (hf : ∀ i, i < k → 0 ≤ f i ∧ f i < n) (hc : ¬ no ≤ count n k f i)
    (hL : Loc w0 w A R S n k f v) (hD : Blk w D (dbg ⟨A, i * 10, none⟩) 124) :
    Calls Tryz.prog 41 #[.pointer (some ⟨S, 0, none⟩), .pointer (some ⟨D, 0, none⟩), .int .i64 no, .iface t x] w fun e w' => e = .returned (.string ByteArray.empty) ∧ Upd (fun _ => False) w w' := by
  have d0 := hD.at (o := 0) rfl
  have HL := Lib.hid hL
  have HF := Lib.hid hf
  clear hL hD hf
  go_enter Tryz.func41, Tryz.ntmps41
  go_wp2_with fail
  refine (found A R S n k i f v no w0 _ hn hk hi HF.out HL.out).mono ?_
  rw [if_neg (by omega)]
  rintro e w1 ⟨rfl, hu⟩
  have HU1 := Lib.hid hu
  clear hu HL d0
  go_wp2
  go_ret
  exact ⟨rfl, HU1.out⟩

theorem reg_get65' (G R n i top : Nat) (f : Nat → Value) (w : World) (hi : i < n) (hn : n ≤ 65536) (hG : Blk w G (rgs R n top) 136) (hR : Blk w R (tab n f) 56) :
    Calls Tryz.prog 65 #[.pointer (some ⟨G, 0, none⟩), .int .i64 i] w fun e w' => e = .returned (f i) ∧ w' = w := (reg_get65 G R n i top f w hi hn hG hR).mono fun _ _ h => ⟨h.1, h.2.symm⟩

set_option maxHeartbeats 800000 in
theorem get_local_in (A R S D n k i m : Nat) (f : Nat → Int) (v : Nat → Value) (no : Int) (w0 w : World) (hn : n ≤ 65536) (hk : k ≤ 4096) (hi : i < k) (hf : ∀ i, i < k → 0 ≤ f i ∧ f i < n) (hc : no ≤ count n k f i) (hm : f i + no = m)
    (hL : Loc w0 w A R S n k f v) (hD : Blk w D (dbg ⟨A, i * 10, none⟩) 124) :
    Calls Tryz.prog 44 #[.pointer (some ⟨S, 0, none⟩), .pointer (some ⟨D, 0, none⟩), .int .i64 no] w fun e w' => e = .returned (.tuple #[.string tmpS, v m]) ∧ Upd (fun _ => False) w w' := by
  have d0 := hD.at (o := 0) rfl
  have HL := Lib.hid hL
  have HF := Lib.hid hf
  have hle := count_le (i := i) hf
  have f0 := hf i hi
  have hmn : m < n := by omega
  clear hL hD hf
  go_enter Tryz.func44, Tryz.ntmps44
  go_wp2_with fail
  refine (found A R S n k i f v no w0 _ hn hk hi HF.out HL.out).mono ?_
  rw [if_pos hc]
  rintro e w1 ⟨rfl, hu⟩
  have HU1 := Lib.hid hu
  have HL1 := Lib.hid (HL.out.next hu)
  clear hu HL d0
  have s13 := HL1.out.ss.at (o := 13) rfl
  have c5 := HL1.out.frame (i := i) (c := 5) hi (by omega) rfl
  have hw1 : IntKind.i64.wrap (f i + 1 + no) = f i + 1 + no := IntWalk.i64_in _ (by omega)
  have hw2 : IntKind.i64.wrap (f i + 1 + no - 1) = (m : Int) := by rw [IntWalk.i64_in _ (by omega)]; omega
  go_wp2
  go_quiet ((go_at_call 65; exact Calls.quiet_of_same (reg_get65' (R + 1) R n m n v _ hmn hn (by exact HL1.out.gg) (by exact HL1.out.rg))))
  go_wp2
  go_ret2
  exact ⟨rfl, HU1.out.drewN _⟩

@[go_sem] theorem mk110 (x : Value) (w : World) : (Instr.makeInterface 110 x).run Tryz.prog w = .ok (.iface 110 x) w := run_makeInterface w 110 x (by kernel_rfl)

set_option maxHeartbeats 800000 in
theorem get_local_out (A R S D n k i : Nat) (f : Nat → Int) (v : Nat → Value) (no : Int) (w0 w : World) (hn : n ≤ 65536) (hk : k ≤ 4096) (hi : i < k) (hf : ∀ i, i < k → 0 ≤ f i ∧ f i < n) (hc : ¬ no ≤ count n k f i)
    (hL : Loc w0 w A R S n k f v) (hD : Blk w D (dbg ⟨A, i * 10, none⟩) 124) :
    Calls Tryz.prog 44 #[.pointer (some ⟨S, 0, none⟩), .pointer (some ⟨D, 0, none⟩), .int .i64 no] w fun e w' => e = .returned (.tuple #[.string ByteArray.empty, .iface 110 (.int .u8 0)]) ∧ Upd (fun _ => False) w w' := by
  have d0 := hD.at (o := 0) rfl
  have HL := Lib.hid hL
  have HF := Lib.hid hf
  clear hL hD hf
  go_enter Tryz.func44, Tryz.ntmps44
  go_wp2_with fail
  refine (found A R S n k i f v no w0 _ hn hk hi HF.out HL.out).mono ?_
  rw [if_neg (by omega)]
  rintro e w1 ⟨rfl, hu⟩
  have HU1 := Lib.hid hu
  clear hu HL d0
  go_wp2
  go_ret2
  exact ⟨rfl, HU1.out⟩
end Go.Proofs.YtnmjidkbaohliaaGreatFmt
