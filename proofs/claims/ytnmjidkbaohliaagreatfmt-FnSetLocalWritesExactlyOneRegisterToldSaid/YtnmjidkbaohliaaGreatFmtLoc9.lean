/- FnSetLocalWritesExactlyOneRegister, walked. -/
import Derived.Test.YtnmjidkbaohliaaGreatFmtLoc8
namespace Go.Proofs.YtnmjidkbaohliaaGreatFmt
open Go.RowKit
set_option maxRecDepth 100000

theorem Fit.all {n k : Nat} {f : Nat → Int} (h : Fit n k f) : ∀ i, i < k → 0 ≤ f i ∧ f i < n := by
  have lo : ∀ i, i < k → 0 ≤ f i := by
    intro i
    induction i with
    | zero => exact fun _ => h.low
    | succ i ih => intro hi; have := ih (by omega); have := h.rise i hi; omega
  have hi : ∀ j i, i + j + 1 = k → f i < n := by
    intro j
    induction j with
    | zero => intro i e; have := h.high; rw [show k - 1 = i by omega] at this; exact this
    | succ j ih => intro i e; have := ih (i + 1) (by omega); have := h.rise i (by omega); omega
  exact fun i hik => ⟨lo i hik, hi (k - 1 - i) i (by omega)⟩

theorem lvl_lt {k : Nat} {lv : Int} (hk : 0 < k) : lvl k lv < k := by
  unfold lvl
  split <;> omega

set_option maxHeartbeats 1600000 in
theorem writes_fit (aV aB : Option Addr) (n cV k cB : Nat) (f : Nat → Int) (x : Nat → Nat) (lv no : Int) (y : Nat) (w : World) (hn : n ≤ 65536) (hk : k ≤ 4096)
    (hV : Cells w aV n fun j => .float .f64 (x j)) (hB : Cells w aB k fun j => .int .i64 (f j)) :
    Calls Tryz.prog 8 #[.slice aV n cV, .slice aB k cB, .int .i64 lv, .int .i64 no, .float .f64 y] w (Good w) := by
  have HV := Lib.hid hV
  have HB := Lib.hid hB
  have d1 : decide ((65536 : Int) < (n : Int)) = false := decide_eq_false (by omega)
  have d2 : decide ((4096 : Int) < (k : Int)) = false := decide_eq_false (by omega)
  clear hV hB
  by_cases hout : (k : Int) ≤ lv ∨ no < 1
  · rcases (by omega : (k : Int) ≤ lv ∨ (lv < (k : Int) ∧ no < 1)) with h | ⟨h, h'⟩
    all_goals
      clear hout
      go_enter Tryz.func8, Tryz.ntmps8
      go_wp2_with fail
      refine (zz34 aV aB n cV k cB lv no y w (by omega) (by omega)).mono ?_
      rintro e w' ⟨b, rfl, rfl⟩
      cases b with
      | false =>
        go_wp2
        go_ret
        exact ⟨rfl, Below.refl _ _⟩
      | true =>
        go_wp2_with fail
        refine (fit35 aV aB n cV k cB f w hk HB.out).mono ?_
        rintro e w1 ⟨b, rfl, hu, hb⟩
        have U1 := Lib.hid hu
        clear hb hu
        cases b
        all_goals
          go_wp2
          go_ret
          exact ⟨rfl, U1.out.below (Nat.le_refl _) (fun k h => h.elim)⟩
  · have hlv : lv < (k : Int) := by omega
    have hno : 1 ≤ no := by omega
    clear hout
    go_enter Tryz.func8, Tryz.ntmps8
    go_wp2_with fail
    refine (zz34 aV aB n cV k cB lv no y w (by omega) (by omega)).mono ?_
    rintro e w' ⟨b, rfl, rfl⟩
    cases b with
    | false =>
      go_wp2
      go_ret
      exact ⟨rfl, Below.refl _ _⟩
    | true =>
      go_wp2_with fail
      refine (fit35 aV aB n cV k cB f w hk HB.out).mono ?_
      rintro e w1 ⟨b, rfl, hu, hb⟩
      have U1 := Lib.hid hu
      cases b with
      | false =>
        clear hb hu
        go_wp2
        go_ret
        exact ⟨rfl, U1.out.below (Nat.le_refl _) (fun k h => h.elim)⟩
      | true =>
        have hfit := hb rfl
        have HF := Lib.hid hfit.all
        have hk0 := hfit.some
        have hn0 : 0 < n := by have := hfit.all (k - 1) (by omega); omega
        clear hb hu hfit
        go_wp2_with fail
        refine (cloneFlo aV n cV x _ (by omega) (HV.out.upd U1.out)).mono ?_
        rintro e w2 ⟨a2, c2, rfl, hu2, h2⟩
        obtain ⟨rfl, hb2⟩ := h2 hn0
        have U2 := Lib.hid (U1.out.trans hu2)
        have B2 := Lib.hid hb2
        clear hu2 hb2 h2 U1
        go_wp2_with fail
        refine (cloneInt aB k cB f _ (by omega) (HB.out.upd U2.out)).mono ?_
        rintro e w3 ⟨a3, c3, rfl, hu3, h3⟩
        obtain ⟨rfl, hb3⟩ := h3 hk0
        have U3 := Lib.hid (U2.out.trans hu3)
        have B3 := Lib.hid (hu3.blk B2.out (fun h => h))
        have I3 := Lib.hid hb3
        clear hu3 hb3 h3 U2 B2
        go_wp2_with fail
        refine (build37 (some ⟨w1.heap.size, 0, none⟩) (some ⟨w2.heap.size, 0, none⟩) n c2 k c3 f x _ hn hk (fun i hi => by have := HF.out i hi; omega) (Cells.of_blk fun _ => ⟨rfl, B3.out⟩) (Cells.of_blk fun _ => ⟨rfl, I3.out⟩)).mono ?_
        rintro e w4 ⟨R, S, rfl, hl⟩
        have L4 := Lib.hid hl
        clear hl
        obtain ⟨A, hA⟩ : ∃ A, w3.heap.size = A := ⟨_, rfl⟩
        rw [hA] at L4
        have HA := Lib.hid hA
        clear hA
        go_wp2_with fail
        refine (get_stack A R S n k f _ lv w3 _ hk hk0 hlv L4.out).mono ?_
        rintro e w5 ⟨D, rfl, hu5, hD, hd5⟩
        have L5 := Lib.hid (L4.out.next hu5)
        have D5 := Lib.hid hd5
        have hDD : R + 1 ≠ D ∧ R ≠ D := by have := L4.out.gg.lt; omega
        clear hu5 hd5 L4 hD
        go_wp2_with fail
        refine (idx39 k lv _ hk hk0 hlv).mono ?_
        rintro e w' ⟨rfl, rfl⟩
        obtain ⟨i, hi⟩ : ∃ i, lvl k lv = i := ⟨_, rfl⟩
        have hik : i < k := by rw [← hi]; exact lvl_lt hk0
        rw [hi] at D5 ⊢
        clear hi hlv
        go_wp2_with fail
        refine (window40 (some ⟨w1.heap.size, 0, none⟩) (some ⟨w2.heap.size, 0, none⟩) n c2 k c3 i f _ hn hk hik (fun i hi => by have := HF.out i hi; omega) (Cells.of_blk fun _ => ⟨rfl, L5.out.upd.blk I3.out (fun h => h)⟩)).mono ?_
        rintro e w' ⟨rfl, rfl⟩
        go_wp2_with fail
        refine (number22 y _).mono ?_
        rintro e w' ⟨rfl, rfl⟩
        go_wp2_with fail
        have f0 := HF.out i hik
        have hle := count_le (i := i) HF.out
        by_cases hc : no ≤ count n k f i
        · obtain ⟨m, hm⟩ : ∃ m : Nat, f i + no = m := ⟨(f i + no).toNat, by omega⟩
          refine (set_local_in A R S D n k i m f _ no 96 (.float .f64 y) _ _ hn hk hik HF.out hc hm L5.out D5.out).mono ?_
          rintro e w6 ⟨rfl, _, hl⟩
          have L6 := Lib.hid hl
          have hcc : no ≤ upper n k f i - (f i + 1) := hc
          have b1 : 0 ≤ f i := f0.1
          have b2 : f i + 1 + no ≤ 65536 := by omega
          have HM := Lib.hid hm
          clear hl L5 D5 hle hc f0 hm
          go_wp2_with fail
          refine (equals42 A R S n k c2 _ f _ x _ y w3 _ hn ?_ (Cells.of_blk fun _ => ⟨rfl, L6.out.upd.blk B3.out (fun h => h)⟩) L6.out).mono ?_
          · have hm := HM.out
            intro q hq
            unfold put
            constructor
            · intro h
              rw [if_pos (by omega)]
            · intro h
              rw [if_neg (by omega)]
          rintro e w' ⟨rfl, rfl⟩
          go_wp2
          go_ret
          exact ⟨rfl, (U3.out.trans L6.out.upd).below (Nat.le_refl _) (fun k h => h.elim)⟩
        · refine (set_local_out A R S D n k i f _ no 96 (.float .f64 y) _ _ hn hk hik HF.out hc L5.out D5.out).mono ?_
          rintro e w6 ⟨rfl, hu⟩
          have L6 := Lib.hid (L5.out.next hu)
          have hcc : ¬ no ≤ upper n k f i - (f i + 1) := hc
          clear hu L5 D5 hle hc f0
          go_wp2_with fail
          refine (equals42 A R S n k c2 _ f _ x _ y w3 _ hn ?_ (Cells.of_blk fun _ => ⟨rfl, L6.out.upd.blk B3.out (fun h => h)⟩) L6.out).mono ?_
          · intro q hq
            constructor
            · intro h
              omega
            · intro h
              rfl
          rintro e w' ⟨rfl, rfl⟩
          go_wp2
          go_ret
          exact ⟨rfl, (U3.out.trans L6.out.upd).below (Nat.le_refl _) (fun k h => h.elim)⟩

set_option maxHeartbeats 1600000 in
theorem writes_long (aV aB : Option Addr) (n cV k cB : Nat) (lv no : Int) (y : Nat) (w : World) (hnm : n ≤ 9223372036854775807) (hkm : k ≤ 9223372036854775807) (hl : ¬ (n ≤ 65536 ∧ k ≤ 4096)) :
    Calls Tryz.prog 8 #[.slice aV n cV, .slice aB k cB, .int .i64 lv, .int .i64 no, .float .f64 y] w (Good w) := by
  have hz := zz34 aV aB n cV k cB lv no y w hnm hkm
  clear hnm hkm
  by_cases h1 : n ≤ 65536
  · have d1 : decide ((65536 : Int) < (n : Int)) = false := decide_eq_false (by omega)
    have d2 : decide ((4096 : Int) < (k : Int)) = true := decide_eq_true (by omega)
    clear hl h1
    go_enter Tryz.func8, Tryz.ntmps8
    go_wp2_with fail
    refine hz.mono ?_
    rintro e w' ⟨b, rfl, rfl⟩
    cases b
    all_goals
      go_wp2
      go_ret
      exact ⟨rfl, Below.refl _ _⟩
  · have d1 : decide ((65536 : Int) < (n : Int)) = true := decide_eq_true (by omega)
    clear hl h1
    go_enter Tryz.func8, Tryz.ntmps8
    go_wp2_with fail
    refine hz.mono ?_
    rintro e w' ⟨b, rfl, rfl⟩
    cases b
    all_goals
      go_wp2
      go_ret
      exact ⟨rfl, Below.refl _ _⟩
end Go.Proofs.YtnmjidkbaohliaaGreatFmt
