/- The fixed stack of call frames: what each of its methods does, walked. -/
import Derived.Test.YtkoiadebacdklaaGreatFmtFacts
import Derived.Test.YtkoiadebacdklaaGreatFmtHeapy
import Derived.StillTailTactics
import Derived.Deep.RegionWith
import Derived.Lib.Hide
namespace Go.Proofs.YtkoiadebacdklaaGreatFmt
open Go.RowKit
set_option maxRecDepth 100000

@[go_sem] theorem mstkAt (v : Value) (w : World) : (method 451 148 v "At").run Tryz.prog w = .ok (248, v) w := by kernel_rfl
@[go_sem] theorem mstkLast (v : Value) (w : World) : (method 451 148 v "Last").run Tryz.prog w = .ok (253, v) w := by kernel_rfl
@[go_sem] theorem mstkPop (v : Value) (w : World) : (method 451 148 v "Pop").run Tryz.prog w = .ok (254, v) w := by kernel_rfl
@[go_sem] theorem mstkPush (v : Value) (w : World) : (method 451 148 v "Push").run Tryz.prog w = .ok (255, v) w := by kernel_rfl
@[go_sem] theorem mstkSp (v : Value) (w : World) : (method 451 148 v "Sp").run Tryz.prog w = .ok (257, v) w := by kernel_rfl

/-- k rows of ten cells. -/
def rws (k : Nat) (f : Nat → List Value) : List Value := (tab k f).flatten

theorem flat10_length : ∀ (l : List (List Value)), (∀ x ∈ l, x.length = 10) → l.flatten.length = l.length * 10
  | [], _ => rfl
  | x :: r, h => by
    rw [List.flatten_cons, List.length_append, h x (by simp), flat10_length r (fun y hy => h y (by simp [hy])), List.length_cons]
    omega

theorem flat10_at : ∀ (l : List (List Value)), (∀ x ∈ l, x.length = 10) → ∀ (q c : Nat) (x : List Value), l[q]? = some x → c < 10 → l.flatten[q * 10 + c]? = x[c]?
  | [], _, q, c, x, hq, _ => by simp at hq
  | y :: r, h, 0, c, x, hq, hc => by
    have hy := h y (by simp)
    simp only [List.getElem?_cons_zero, Option.some.injEq] at hq
    subst hq
    rw [List.flatten_cons, List.getElem?_append_left (by omega), Nat.zero_mul, Nat.zero_add]
  | y :: r, h, q + 1, c, x, hq, hc => by
    have hy := h y (by simp)
    rw [List.flatten_cons, List.getElem?_append_right (by omega), show (q + 1) * 10 + c - y.length = q * 10 + c by omega]
    exact flat10_at r (fun z hz => h z (by simp [hz])) q c x (by simpa using hq) hc

theorem tab_mem {α : Type} {k : Nat} {f : Nat → α} {p : α → Prop} (h : ∀ i, i < k → p (f i)) : ∀ x ∈ tab k f, p x := fun x hx => by
  obtain ⟨i, hi, rfl⟩ := List.mem_map.1 hx
  exact h i (List.mem_range.1 hi)

theorem rws_length (k : Nat) (f : Nat → List Value) (hf : ∀ i, i < k → (f i).length = 10) : (rws k f).length = k * 10 := by
  unfold rws
  rw [flat10_length _ (tab_mem hf), tab_length]
theorem rws_at {k : Nat} {f : Nat → List Value} (hf : ∀ i, i < k → (f i).length = 10) {i c : Nat} (hi : i < k) (hc : c < 10) : (rws k f)[i * 10 + c]? = (f i)[c]? :=
  flat10_at _ (tab_mem hf) i c _ (tab_in hi) hc
theorem rws_over {k : Nat} {f : Nat → List Value} (hf : ∀ i, i < k → (f i).length = 10) {i : Nat} (hi : i < k) {x : List Value} (hx : x.length = 10) : over (rws k f) (i * 10) x = rws k (fun m => if m = i then x else f m) := by
  have hg : ∀ m, m < k → ((fun m => if m = i then x else f m) m).length = 10 := fun m hm => by
    show (if m = i then x else f m).length = 10
    split
    · exact hx
    · exact hf m hm
  apply List.ext_getElem?
  intro o
  obtain ⟨q, j, hj, rfl⟩ : ∃ q j, j < 10 ∧ o = q * 10 + j := ⟨o / 10, o % 10, by omega, by omega⟩
  rw [over_at, rws_length k f hf, hx]
  by_cases hq : q < k
  · rw [rws_at hg hq hj]
    by_cases h : q = i
    · subst h
      rw [if_pos ⟨by omega, by omega, by omega⟩, if_pos rfl]
      congr 1; omega
    · rw [if_neg (by omega), if_neg h, rws_at hf hq hj]
  · rw [if_neg (by omega), List.getElem?_eq_none (by rw [rws_length k f hf]; omega), List.getElem?_eq_none (by rw [rws_length k _ hg]; omega)]


/-- The two cells of the stack's own struct. -/
def stk (A k : Nat) (sp : Int) : List Value := [.slice (some ⟨A, 0, none⟩) k k, .int .i64 sp]
def fr0 : List Value := [.int .i64 0, .pointer none, .pointer none, .int .i64 0, .int .i64 0, .int .i64 0, .int .i64 0, .int .i64 0, .int .i64 0, .int .i64 0]

theorem rws_set1 {k : Nat} {f : Nat → List Value} (hf : ∀ i, i < k → (f i).length = 10) {i c : Nat} (hi : i < k) (hc : c < 10) (v : Value) : (rws k f).set (i * 10 + c) v = rws k (fun m => if m = i then (f i).set c v else f m) := by
  have hg : ∀ m, m < k → ((fun m => if m = i then (f i).set c v else f m) m).length = 10 := fun m hm => by
    show (if m = i then (f i).set c v else f m).length = 10
    split
    · rw [List.length_set]; exact hf i hi
    · exact hf m hm
  apply List.ext_getElem?
  intro o
  obtain ⟨q, j, hj, rfl⟩ : ∃ q j, j < 10 ∧ o = q * 10 + j := ⟨o / 10, o % 10, by omega, by omega⟩
  rw [List.getElem?_set, rws_length k f hf]
  by_cases hq : q < k
  · rw [rws_at hg hq hj, rws_at hf hq hj]
    by_cases h : q = i
    · subst h
      rw [if_pos rfl, List.getElem?_set, hf q hi]
      by_cases e : c = j
      · subst e; rw [if_pos rfl, if_pos (by omega), if_pos rfl, if_pos hc]
      · rw [if_neg (by omega), if_neg e]
    · rw [if_neg (by omega), if_neg h]
  · rw [if_neg (by omega), List.getElem?_eq_none (by rw [rws_length k f hf]; omega), List.getElem?_eq_none (by rw [rws_length k _ hg]; omega)]

set_option maxHeartbeats 400000 in
theorem stk_sp (B A k : Nat) (sp : Int) (w : World) (hB : Blk w B (stk A k sp) 151) :
    Calls Tryz.prog 257 #[.pointer (some ⟨B, 0, none⟩)] w fun e w' => e = .returned (.int .i64 sp) ∧ w = w' := by
  have h1 := hB.at (o := 1) rfl
  clear hB
  go_enter Tryz.func257, Tryz.ntmps257
  go_wp2
  go_ret
  exact ⟨rfl, rfl⟩

set_option maxHeartbeats 400000 in
theorem stk_at (B A k i : Nat) (sp : Int) (w : World) (hi : i < k) (hB : Blk w B (stk A k sp) 151) :
    Calls Tryz.prog 248 #[.pointer (some ⟨B, 0, none⟩), .int .i64 i] w fun e w' => e = .returned (.pointer (some ⟨A, i * 10, none⟩)) ∧ w = w' := by
  have h0 := hB.at (o := 0) rfl
  clear hB
  go_enter Tryz.func248, Tryz.ntmps248
  go_wp2
  go_ret
  exact ⟨by simp, rfl⟩

set_option maxHeartbeats 400000 in
theorem stk_last (B A k s : Nat) (w : World) (hs : s < k) (hk : k ≤ 4096) (hB : Blk w B (stk A k ((s : Int) + 1)) 151) :
    Calls Tryz.prog 253 #[.pointer (some ⟨B, 0, none⟩)] w fun e w' => e = .returned (.pointer (some ⟨A, s * 10, none⟩)) ∧ ∃ n, w' = w.drewN n := by
  have h0 := hB.at (o := 0) rfl
  have h1 := hB.at (o := 1) rfl
  clear hB
  go_enter Tryz.func253, Tryz.ntmps253
  go_wp2
  go_quiet (fail)
  go_wp2
  go_ret
  exact ⟨by simp, _, rfl⟩

theorem info_fr : (Tryz.prog.info? 129).map (·.size) = some 10 := by kernel_rfl
theorem one_cells {c : List Value} (h : ∀ v ∈ c, v.oneCell' = true) : ∀ v ∈ c, v.oneCell' = true := h

set_option maxHeartbeats 400000 in
theorem stk_push (B A s k : Nat) (f : Nat → List Value) (c : List Value) (w : World) (hs : s < k) (hk : k ≤ 4096) (hf : ∀ i, i < k → (f i).length = 10) (hc : c.length = 10) (h1c : ∀ v ∈ c, v.oneCell' = true) (z : Int) (hz : c[0]? = some (.int .i64 z)) (hAB : A ≠ B)
    (hA : Blk w A (rws k f) 129) (hB : Blk w B (stk A k s) 151) :
    Calls Tryz.prog 255 #[.pointer (some ⟨B, 0, none⟩), .agg c.toArray] w fun e w' => e = .returned (.tuple #[]) ∧ Upd (fun b => b = A ∨ b = B) w w' ∧
      Blk w' A (rws k (fun m => if m = s then c.set 0 (.int .i64 s) else f m)) 129 ∧ Blk w' B (stk A k ((s : Int) + 1)) 151 := by
  have h0 := hB.at (o := 0) rfl
  have h1 := hB.at (o := 1) rfl
  have hfz := hB.free 1
  have HB := Lib.hid hB
  have HA := Lib.hid hA
  have HF := Lib.hid hf
  have HC := Lib.hid (⟨hc, h1c, hz⟩ : c.length = 10 ∧ (∀ v ∈ c, v.oneCell' = true) ∧ c[0]? = some (.int .i64 z))
  have hl : c.toArray.size = 10 := by simpa using hc
  clear hB hA hf hc h1c hz
  go_enter Tryz.func255, Tryz.ntmps255
  go_wp2
  refine wp_region_tail_at 10 (by kernel_rfl) (by kernel_rfl) (fun W1 hW1 => ?_)
  have UP := Lib.hid (show Upd (fun b => b = A ∨ b = B) w W1 by rw [hW1]; exact ((Upd.refl _ _).alloc _).drew)
  have HA1 := Lib.hid (show Blk W1 A (rws k f) 129 by rw [hW1]; exact (HA.out.alloc _).drew)
  have HB1 := Lib.hid (show Blk W1 B (stk A k s) 151 by rw [hW1]; exact (HB.out.alloc _).drew)
  have HX := Lib.hid (show Blk W1 w.heap.size c 129 by rw [hW1]; exact (Blk.new w c 129).drew)
  clear hW1 h0 h1 hfz
  have h0 := HB1.out.at (o := 0) rfl
  have h1 := HB1.out.at (o := 1) rfl
  simp only [List.take_succ_cons, List.take_zero, List.drop_succ_cons, List.drop_zero]
  repeat still_step
  refine wpStill_load_mid rfl 129 (.tmp 3) rfl w.heap.size 0 rfl c _ (HX.out.range 0 _ (fun j _ => by rw [Nat.zero_add])) Tryz.underlying129 rfl (by rw [HC.out.1]; exact info_fr) ?_
  repeat still_step
  refine wpStill_nil ?_
  refine wpList_store_mid rfl 129 (.tmp 13) (.tmp 12) rfl A (s * 10) c.toArray (by simp [Act.eval]) rfl (HA1.out.there _ _ (by rw [rws_length k f HF.out, hl]; omega)) (by rw [hl]; exact info_fr) (all_oneCell_toArray HC.out.2.1) ?_
  obtain ⟨W2, hW2⟩ : ∃ W2 : World, W1.setCells A (s * 10) c.toArray.toList = W2 := ⟨_, rfl⟩
  rw [hW2]
  have UP2 := Lib.hid (show Upd (fun b => b = A ∨ b = B) w W2 by rw [← hW2]; exact UP.out.setCells _ _ _ (.inl (.inl rfl)))
  have HA2 := Lib.hid (show Blk W2 A (rws k (fun m => if m = s then c else f m)) 129 by rw [← hW2, ← rws_over HF.out hs HC.out.1]; exact HA1.out.sets _ _)
  have HB2 := Lib.hid (show Blk W2 B (stk A k s) 151 by rw [← hW2]; exact HB1.out.sets_other _ _ _ (Ne.symm hAB))
  have HF2 := Lib.hid (show ∀ i, i < k → ((fun m => if m = s then c else f m) i).length = 10 from fun i hi => by
    show (if i = s then c else f i).length = 10
    split
    · exact HC.out.1
    · exact HF.out i hi)
  clear hW2 h0 h1 HA1 HB1 HX UP HA HB
  go_wp2
  refine wp_region_tail_at 14 (by kernel_rfl) (by kernel_rfl) (fun W3 hW3 => ?_)
  have UP3 := Lib.hid (show Upd (fun b => b = A ∨ b = B) w W3 by rw [hW3]; exact UP2.out.drew)
  have HA3 := Lib.hid (show Blk W3 A (rws k (fun m => if m = s then c else f m)) 129 by rw [hW3]; exact HA2.out.drew)
  have HB3 := Lib.hid (show Blk W3 B (stk A k s) 151 by rw [hW3]; exact HB2.out.drew)
  clear hW3 HA2 HB2 UP2
  have h0 := HB3.out.at (o := 0) rfl
  have h1 := HB3.out.at (o := 1) rfl
  have hcc := HA3.out.at (o := s * 10) (v := .int .i64 z) (by rw [show s * 10 = s * 10 + 0 by omega, rws_at HF2.out hs (by omega), if_pos rfl]; exact HC.out.2.2)
  have hcf := HA3.out.free (s * 10)
  simp only [List.take_succ_cons, List.take_zero, List.drop_succ_cons, List.drop_zero]
  repeat still_step
  refine wpStill_nil ?_
  have hbf := HB3.out.free 1
  go_wp2
  go_end0
  refine ⟨rfl, (UP3.out.setCell _ _ (.inl (.inl rfl))).setCell _ _ (.inl (.inr rfl)), ?_, ?_⟩
  · have e := rws_set1 HF2.out hs (c := 0) (by omega) (.int .i64 s)
    have e2 : (rws k fun m => if m = s then ((fun m => if m = s then c else f m) s).set 0 (.int .i64 s) else (fun m => if m = s then c else f m) m) = rws k fun m => if m = s then c.set 0 (.int .i64 s) else f m := by
      unfold rws
      congr 1
      refine tab_congr (fun m _ => ?_)
      by_cases e : m = s
      · subst e; simp
      · simp [e]
    rw [e2] at e
    rw [← e]
    exact (HA3.out.set _ _).set_other _ _ hAB
  · exact (HB3.out.set_other _ _ (Ne.symm hAB)).set 1 _

theorem mkFrames (k : Nat) (hk : k ≤ 4096) (w : World) : (Instr.makeSlice 149 (.int .i64 (k : Int)) (.int .i64 (k : Int))).run Tryz.prog w = .ok (.slice (some ⟨w.heap.size, 0, none⟩) k k) (w.alloc (.cells (rws k fun _ => fr0).toArray 129)) := by
  have h := run_made (P := Tryz.prog) 149 129 (.agg fr0.toArray) 80 Tryz.underlying149 (by kernel_rfl) (by decide) k (by omega) (by omega) w
  have e : (rws k fun _ => fr0) = (List.replicate k fr0).flatten := by
    unfold rws
    rw [tab_rep]
  rw [e]
  exact h
end Go.Proofs.YtkoiadebacdklaaGreatFmt
