/- The state of the two SetLocal laws, built and walked. -/
import Derived.Test.YtnmjidkbaohliaaGreatFmtLoc3
namespace Go.Proofs.YtnmjidkbaohliaaGreatFmt
open Go.RowKit
set_option maxRecDepth 100000

/-- A function of Go's side. -/
def gfn : List Value := [.bool true, .pointer none, .pointer none, .nilFunc, .slice none 0 0]
/-- The frames of these laws. -/
def frs (A : Nat) (f : Nat → Int) (i : Nat) : List Value := lfr (A + 2) (below A i) i (f i)

/-- The state of these laws: frames, their stack, their function, registers, the state itself. -/
structure Loc (w w' : World) (A R S n k : Nat) (f : Nat → Int) (v : Nat → Value) : Prop where
  upd : Upd (fun _ => False) w w'
  old : w.heap.size ≤ A
  hR : A + 2 < R
  hS : R + 1 < S
  fr : Blk w' A (rws k (frs A f)) 71
  st : Blk w' (A + 1) (stk A k k) 141
  fn : Blk w' (A + 2) gfn 43
  rg : Blk w' R (tab n v) 56
  gg : Blk w' (R + 1) (rgs R n n) 136
  ss : Blk w' S (sts (A + 1) (R + 1) (below A k)) 108

theorem frs_len (A : Nat) (f : Nat → Int) (i : Nat) : (frs A f i).length = 10 := rfl

theorem half_len (A j : Nat) (f : Nat → Int) (i : Nat) : (if i < j then frs A f i else Fr.zero.cells).length = 10 := by
  split <;> rfl

set_option maxHeartbeats 400000 in
theorem no_frame (w : World) : Calls Tryz.prog 55 #[] w fun e w' => e = .returned (.pointer none) ∧ w = w' := by
  go_enter Tryz.func55, Tryz.ntmps55
  go_wp2
  go_ret
  exact ⟨rfl, rfl⟩

set_option maxHeartbeats 1600000 in
theorem build37 (aV aB : Option Addr) (n cV k cB : Nat) (f : Nat → Int) (x : Nat → Nat) (w : World) (hn : n ≤ 65536) (hk : k ≤ 4096) (hf : ∀ i, i < k → 0 ≤ f i ∧ f i ≤ 65536) (hV : Cells w aV n fun j => .float .f64 (x j)) (hB : Cells w aB k fun j => .int .i64 (f j)) :
    Calls Tryz.prog 37 #[.slice aV n cV, .slice aB k cB] w fun e w' => ∃ R S, e = .returned (.pointer (some ⟨S, 0, none⟩)) ∧ Loc w w' w.heap.size R S n k f (fun m => .iface 96 (.float .f64 (x m))) := by
  have HV := Lib.hid hV
  have HB := Lib.hid hB
  have HF := Lib.hid hf
  clear hV hB hf
  go_enter Tryz.func37, Tryz.ntmps37
  go_wp2_with fail
  refine (new_stack k _ hk).mono ?_
  rintro e w1 ⟨rfl, hu, hz, ha, hb⟩
  have U1 := Lib.hid hu
  have Z1 := Lib.hid hz
  have A1 := Lib.hid ha
  have B1 := Lib.hid hb
  clear hu hz ha hb
  go_wp2_with fail
  refine (no_frame _).mono ?_
  rintro e w2 ⟨rfl, hw2⟩
  have U2 := Lib.hid (show Upd (fun _ => False) w w2 by rw [← hw2]; exact U1.out.alloc _)
  have A2 := Lib.hid (show Blk w2 w.heap.size (rws k fun _ => Fr.zero.cells) 71 by rw [← hw2]; exact A1.out.alloc _)
  have B2 := Lib.hid (show Blk w2 (w.heap.size + 1) (stk w.heap.size k k) 141 by rw [← hw2]; exact B1.out.alloc _)
  have F2 := Lib.hid (show Blk w2 (w.heap.size + 2) gfn 43 by rw [← hw2]; exact Blk.new_at (Z1.out.symm) gfn 43)
  have Z2 := Lib.hid (show w2.heap.size = w.heap.size + 3 by rw [← hw2, World.size_alloc, Z1.out])
  have z1 := Z1.out
  rw [z1]
  clear hw2 U1 A1 B1 Z1 z1
  obtain ⟨A, hA⟩ : ∃ A, w.heap.size = A := ⟨_, rfl⟩
  rw [hA] at A2 B2 F2 Z2 ⊢
  have HA := Lib.hid hA
  clear hA
  go_wp2_with fail
  go_loopw [8, 9] (fun c i wr => ∃ j : Nat, j ≤ k ∧ c = .pointer (below A j) ∧ i = .int .i64 j ∧ Upd (fun _ => False) w wr ∧ Blk wr A (rws k fun m => if m < j then frs A f m else Fr.zero.cells) 71 ∧ Blk wr (A + 1) (stk A k k) 141 ∧ Blk wr (A + 2) gfn 43) (fun _ i _ => k - (intOf i).toNat)
  case atStart => exact ⟨0, Nat.zero_le _, rfl, rfl, U2.out, A2.out, B2.out, F2.out⟩
  case round =>
    obtain ⟨j, hj, rfl, rfl, hu, ha, hb, hf⟩ := hrel
    have HU := Lib.hid hu
    have HA3 := Lib.hid ha
    have HB3 := Lib.hid hb
    have HF3 := Lib.hid hf
    clear hu ha hb hf A2 B2 F2 Z2 U2
    by_cases hlt : j < k
    · obtain ⟨b, off, rfl, hc⟩ := (HB.out.upd HU.out).one hlt
      go_wp2_with fail
      refine (set_frame A (A + 1) (A + 2) k j (below A j) (f j) _ _ (fun i _ => half_len A j f i) hlt hk (HF.out j hlt).1 (HF.out j hlt).2 (by omega) HA3.out HB3.out).mono ?_
      rintro e w4 ⟨rfl, hu, ha⟩
      have hoA : w.heap.size ≤ A := Nat.le_of_eq HA.out
      have HU4 := Lib.hid (HU.out.trans_new hu (fun i e => by rw [e]; exact hoA))
      have HA4 := Lib.hid (show Blk w4 A (rws k fun m => if m < j + 1 then frs A f m else Fr.zero.cells) 71 by
        have e : (rws k fun m => if m = j then lfr (A + 2) (below A j) j (f j) else if m < j then frs A f m else Fr.zero.cells) = rws k fun m => if m < j + 1 then frs A f m else Fr.zero.cells := by
          unfold rws
          congr 1
          refine tab_congr (fun m _ => ?_)
          by_cases e : m = j
          · subst e; rw [if_pos rfl, if_pos (by omega)]; rfl
          · rw [if_neg e]
            by_cases e2 : m < j
            · rw [if_pos e2, if_pos (by omega)]
            · rw [if_neg e2, if_neg (by omega)]
        rw [← e]
        exact ha)
      have HB4 := Lib.hid (hu.blk HB3.out (by omega))
      have HF4 := Lib.hid (hu.blk HF3.out (by omega))
      have hbl : below A (j + 1) = some ⟨A, j * 10, none⟩ := by unfold below; rw [if_neg (by omega), Nat.add_sub_cancel]
      clear hu ha HU HA3 HB3 HF3
      go_wp2
      go_roundw
      case rel => exact ⟨j + 1, by omega, by rw [hbl], by go_num, HU4.out, HA4.out, HB4.out, HF4.out⟩
      case measure => simp [intOf]; omega
    · obtain rfl : j = k := by omega
      have HA4 := Lib.hid (show Blk wr A (rws j (frs A f)) 71 by
        have h := HA3.out
        unfold rws at h
        rw [tab_congr (g := frs A f) (fun m hm => if_pos hm)] at h
        exact h)
      clear HA3
      go_wp2_with fail
      refine (new_reg n _ hn).mono ?_
      rintro e w5 ⟨rfl, hu, _, hr, hg⟩
      have lF := HF3.out.lt
      obtain ⟨R, hR⟩ : ∃ R, wr.heap.size = R := ⟨_, rfl⟩
      rw [hR] at hr hg lF ⊢
      have HU5 := Lib.hid (HU.out.trans hu)
      have HA5 := Lib.hid (hu.blk HA4.out (fun h => h))
      have HB5 := Lib.hid (hu.blk HB3.out (fun h => h))
      have HF5 := Lib.hid (hu.blk HF3.out (fun h => h))
      have HR5 := Lib.hid hr
      have HG5 := Lib.hid hg
      clear hu hr hg hR HA4 HB3 HF3 HU
      go_wp2_with fail
      go_loopw [11] (fun i wq => ∃ m : Nat, m ≤ n ∧ i = .int .i64 m ∧ Upd (fun _ => False) w wq ∧ Blk wq A (rws j (frs A f)) 71 ∧ Blk wq (A + 1) (stk A j j) 141 ∧ Blk wq (A + 2) gfn 43 ∧
        Blk wq R (tab n fun q => if q < m then .iface 96 (.float .f64 (x q)) else .nilIface) 56 ∧ Blk wq (R + 1) (rgs R n m) 136) (fun i _ => n - (intOf i).toNat)
      case atStart => exact ⟨0, Nat.zero_le _, rfl, HU5.out, HA5.out, HB5.out, HF5.out, HR5.out, HG5.out⟩
      case round =>
        obtain ⟨m, hm, rfl, hu, ha, hb, hf, hr, hg⟩ := hrel
        have HU6 := Lib.hid hu
        have HA6 := Lib.hid ha
        have HB6 := Lib.hid hb
        have HF6 := Lib.hid hf
        have HR6 := Lib.hid hr
        have HG6 := Lib.hid hg
        clear hu ha hb hf hr hg HU5 HA5 HB5 HF5 HR5 HG5
        by_cases hlt2 : m < n
        · obtain ⟨b, off, rfl, hc⟩ := (HV.out.upd HU6.out).one hlt2
          go_wp2_with fail
          refine (reg_set_number (R + 1) R n m m (x m) _ _ hlt2 hn (by omega) HG6.out HR6.out).mono ?_
          rintro e w7 ⟨rfl, hu, hg, hr⟩
          have hoA : w.heap.size ≤ A := Nat.le_of_eq HA.out
          have HU7 := Lib.hid (HU6.out.trans_new hu (fun i e => by rcases e with e | e <;> omega))
          have HA7 := Lib.hid (hu.blk HA6.out (by omega))
          have HB7 := Lib.hid (hu.blk HB6.out (by omega))
          have HF7 := Lib.hid (hu.blk HF6.out (by omega))
          have HG7 := Lib.hid (show Blk w7 (R + 1) (rgs R n (m + 1)) 136 by
            unfold raise at hg
            rw [if_pos (Nat.le_refl _)] at hg
            exact hg)
          have HR7 := Lib.hid (show Blk w7 R (tab n fun q => if q < m + 1 then .iface 96 (.float .f64 (x q)) else .nilIface) 56 by
            rw [tab_congr (g := fun q => if q = m then Value.iface 96 (.float .f64 (x m)) else if q < m then .iface 96 (.float .f64 (x q)) else .nilIface)]
            · exact hr
            · intro q _
              by_cases e : q = m
              · subst e; rw [if_pos (by omega), if_pos rfl]
              · rw [if_neg e]
                by_cases e2 : q < m
                · rw [if_pos e2, if_pos (by omega)]
                · rw [if_neg e2, if_neg (by omega)])
          clear hu hg hr HU6 HA6 HB6 HF6 HG6 HR6
          go_wp2
          go_roundw
          case rel => exact ⟨m + 1, by omega, by go_num, HU7.out, HA7.out, HB7.out, HF7.out, HR7.out, HG7.out⟩
          case measure => simp [intOf]; omega
        · obtain rfl : m = n := by omega
          have HR7 := Lib.hid (show Blk wr R (tab m fun q => .iface 96 (.float .f64 (x q))) 56 by
            rw [tab_congr (g := fun q => if q < m then Value.iface 96 (.float .f64 (x q)) else .nilIface) (fun q hq => by rw [if_pos hq])]
            exact HR6.out)
          clear HR6
          go_wp2_with fail
          refine (new_sts (A + 1) (R + 1) (below A j) _).mono ?_
          rintro e w8 ⟨rfl, hu, _, hs⟩
          have lG := HG6.out.lt
          have lo : w.heap.size ≤ A := Nat.le_of_eq HA.out
          have L8 := Lib.hid (show Loc w w8 A R wr.heap.size m j f (fun m => .iface 96 (.float .f64 (x m))) from ⟨HU6.out.trans hu, lo, by omega, by omega, hu.blk HA6.out (fun h => h), hu.blk HB6.out (fun h => h), hu.blk HF6.out (fun h => h), hu.blk HR7.out (fun h => h), hu.blk HG6.out (fun h => h), hs⟩)
          clear hu hs HU6 HA6 HB6 HF6 HR7 HG6
          go_wp2
          go_ret
          exact ⟨R, _, rfl, by rw [HA.out]; exact L8.out⟩
end Go.Proofs.YtnmjidkbaohliaaGreatFmt
