/- The fixed stack of call frames: what each of its methods does, walked. -/
import Derived.Test.YtnmjidkbaohliaaGreatFmtFacts
import Derived.Test.YtnmjidkbaohliaaGreatFmtHeapy
import Derived.StillTailTactics
import Derived.Lib.Hide
namespace Go.Proofs.YtnmjidkbaohliaaGreatFmt
open Go.RowKit

@[go_sem] theorem mAt (v : Value) (w : World) : (method 451 117 v "At").run Tryz.prog w = .ok (227, v) w := by kernel_rfl
@[go_sem] theorem mLast (v : Value) (w : World) : (method 451 117 v "Last").run Tryz.prog w = .ok (232, v) w := by kernel_rfl
@[go_sem] theorem mPop (v : Value) (w : World) : (method 451 117 v "Pop").run Tryz.prog w = .ok (233, v) w := by kernel_rfl
@[go_sem] theorem mPush (v : Value) (w : World) : (method 451 117 v "Push").run Tryz.prog w = .ok (234, v) w := by kernel_rfl
@[go_sem] theorem mSp (v : Value) (w : World) : (method 451 117 v "Sp").run Tryz.prog w = .ok (236, v) w := by kernel_rfl

/-- What these laws tell of one call frame. -/
structure Fr where
  idx : Int
  par : Option Addr
  pc : Int
  base : Int
  nret : Int
def Fr.cells (f : Fr) : List Value := [.int .i64 f.idx, .pointer none, .pointer f.par, .int .i64 f.pc, .int .i64 f.base, .int .i64 0, .int .i64 0, .int .i64 0, .int .i64 f.nret, .int .i64 0]
theorem Fr.cells_one (f : Fr) : ∀ v ∈ f.cells, v.oneCell' = true := by
  intro v hv
  unfold Fr.cells at hv
  simp only [List.mem_cons, List.not_mem_nil, or_false] at hv
  rcases hv with rfl | rfl | rfl | rfl | rfl | rfl | rfl | rfl | rfl | rfl <;> rfl
def Fr.zero : Fr := ⟨0, none, 0, 0, 0⟩
def enc (fs : List Fr) : List Value := fs.flatMap Fr.cells

theorem enc_length (fs : List Fr) : (enc fs).length = fs.length * 10 := by
  induction fs with
  | nil => rfl
  | cons f r ih =>
    show (f.cells ++ enc r).length = _
    rw [List.length_append, ih, List.length_cons]
    show 10 + _ = _
    omega

theorem enc_at (fs : List Fr) (i j : Nat) (f : Fr) (hf : fs[i]? = some f) (hj : j < 10) : (enc fs)[i * 10 + j]? = f.cells[j]? := by
  induction fs generalizing i with
  | nil => simp at hf
  | cons g r ih =>
    show (g.cells ++ enc r)[_]? = _
    cases i with
    | zero =>
      simp only [List.getElem?_cons_zero, Option.some.injEq] at hf
      subst hf
      rw [List.getElem?_append_left (by show 0 * 10 + j < 10; omega), Nat.zero_mul, Nat.zero_add]
    | succ i =>
      rw [List.getElem?_append_right (by show 10 ≤ _; omega)]
      rw [show (i + 1) * 10 + j - g.cells.length = i * 10 + j by show (i + 1) * 10 + j - 10 = _; omega]
      exact ih i (by simpa using hf)

theorem enc_over (fs : List Fr) (i : Nat) (f : Fr) (hi : i < fs.length) : over (enc fs) (i * 10) f.cells = enc (fs.set i f) := by
  apply List.ext_getElem?
  intro o
  obtain ⟨q, j, hj, rfl⟩ : ∃ q j, j < 10 ∧ o = q * 10 + j := ⟨o / 10, o % 10, by omega, by omega⟩
  rw [over_at, enc_length]
  by_cases hq : q < fs.length
  · by_cases h : q = i
    · subst h
      rw [if_pos ⟨by omega, by show _ < _ + 10; omega, by omega⟩, enc_at (fs.set q f) q j f (by simp [hq]) hj]
      congr 1; omega
    · rw [if_neg (by show ¬ (_ ∧ _ < _ + 10 ∧ _); omega), enc_at fs q j _ (List.getElem?_eq_getElem hq) hj, enc_at (fs.set i f) q j fs[q] (by rw [List.getElem?_set_ne (Ne.symm h)]; exact List.getElem?_eq_getElem hq) hj]
  · rw [if_neg (by omega), List.getElem?_eq_none (by rw [enc_length]; omega), List.getElem?_eq_none (by rw [enc_length, List.length_set]; omega)]

theorem enc_set1 (fs : List Fr) (i j : Nat) (v : Value) (f f' : Fr) (hf : fs[i]? = some f) (hj : j < 10) (hc : f.cells.set j v = f'.cells) : (enc fs).set (i * 10 + j) v = enc (fs.set i f') := by
  have hi : i < fs.length := (List.getElem?_eq_some_iff.1 hf).1
  apply List.ext_getElem?
  intro o
  obtain ⟨q, k, hk, rfl⟩ : ∃ q k, k < 10 ∧ o = q * 10 + k := ⟨o / 10, o % 10, by omega, by omega⟩
  by_cases hq : q < fs.length
  · by_cases h : q = i
    · subst h
      rw [enc_at (fs.set q f') q k f' (by simp [hq]) hk, ← hc, List.getElem?_set, List.getElem?_set, enc_at fs q k f hf hk, enc_length]
      have hl : f.cells.length = 10 := rfl
      by_cases e : j = k
      · subst e; rw [if_pos rfl, if_pos rfl, if_pos (by omega), if_pos (by omega)]
      · rw [if_neg (by omega), if_neg e]
    · rw [List.getElem?_set_ne (by omega), enc_at fs q k _ (List.getElem?_eq_getElem hq) hk, enc_at (fs.set i f') q k fs[q] (by rw [List.getElem?_set_ne (Ne.symm h)]; exact List.getElem?_eq_getElem hq) hk]
  · rw [List.getElem?_eq_none (by rw [List.length_set, enc_length]; omega), List.getElem?_eq_none (by rw [enc_length, List.length_set]; omega)]

/-- The two cells of the stack's own struct. -/
def stk (A k : Nat) (sp : Int) : List Value := [.slice (some ⟨A, 0, none⟩) k k, .int .i64 sp]

set_option maxRecDepth 100000
set_option maxHeartbeats 400000 in
theorem stk_sp (B A k : Nat) (sp : Int) (w : World) (hB : Blk w B (stk A k sp) 141) :
    Calls Tryz.prog 236 #[.pointer (some ⟨B, 0, none⟩)] w fun e w' => e = .returned (.int .i64 sp) ∧ w' = w := by
  have h1 := hB.at (o := 1) rfl
  clear hB
  go_enter Tryz.func236, Tryz.ntmps236
  go_wp2
  go_ret
  exact ⟨rfl, rfl⟩

set_option maxHeartbeats 400000 in
theorem stk_at (B A k i : Nat) (sp : Int) (w : World) (hi : i < k) (hB : Blk w B (stk A k sp) 141) :
    Calls Tryz.prog 227 #[.pointer (some ⟨B, 0, none⟩), .int .i64 i] w fun e w' => e = .returned (.pointer (some ⟨A, i * 10, none⟩)) ∧ w' = w := by
  have h0 := hB.at (o := 0) rfl
  clear hB
  go_enter Tryz.func227, Tryz.ntmps227
  go_wp2
  go_ret
  exact ⟨by simp, rfl⟩

set_option maxHeartbeats 400000 in
theorem stk_last (B A k s : Nat) (w : World) (hs : s < k) (hk : k ≤ 4096) (hB : Blk w B (stk A k ((s : Int) + 1)) 141) :
    Calls Tryz.prog 232 #[.pointer (some ⟨B, 0, none⟩)] w fun e w' => e = .returned (.pointer (some ⟨A, s * 10, none⟩)) ∧ ∃ n, w' = w.drewN n := by
  have h0 := hB.at (o := 0) rfl
  have h1 := hB.at (o := 1) rfl
  clear hB
  go_enter Tryz.func232, Tryz.ntmps232
  go_wp2
  go_quiet (fail)
  go_wp2
  go_ret
  exact ⟨by simp, _, rfl⟩

set_option maxHeartbeats 400000 in
theorem stk_last0 (B A k : Nat) (w : World) (hB : Blk w B (stk A k 0) 141) :
    Calls Tryz.prog 232 #[.pointer (some ⟨B, 0, none⟩)] w fun e w' => e = .returned (.pointer none) ∧ ∃ n, w' = w.drewN n := by
  have h1 := hB.at (o := 1) rfl
  clear hB
  go_enter Tryz.func232, Tryz.ntmps232
  go_wp2
  go_ret
  exact ⟨rfl, 0, rfl⟩

set_option maxHeartbeats 400000 in
theorem stk_pop (B A k s : Nat) (w : World) (hs : s < k) (hk : k ≤ 4096) (hB : Blk w B (stk A k ((s : Int) + 1)) 141) :
    Calls Tryz.prog 233 #[.pointer (some ⟨B, 0, none⟩)] w fun e w' => e = .returned (.pointer (some ⟨A, s * 10, none⟩)) ∧ Upd (fun b => b = B) w w' ∧ Blk w' B (stk A k s) 141 := by
  have h0 := hB.at (o := 0) rfl
  have h1 := hB.at (o := 1) rfl
  have hf := hB.free 1
  have HB := Lib.hid hB
  clear hB
  go_enter Tryz.func233, Tryz.ntmps233
  go_wp2
  have h0' : (w.setCell ⟨B, 1, none⟩ (.int .i64 s)).cell? ⟨B, 0, none⟩ = some (.slice (some ⟨A, 0, none⟩) k k) := (HB.out.set 1 (.int .i64 s)).at rfl
  have h1' : (w.setCell ⟨B, 1, none⟩ (.int .i64 s)).cell? ⟨B, 1, none⟩ = some (.int .i64 s) := (HB.out.set 1 (.int .i64 s)).at rfl
  go_quiet (fail)
  go_wp2
  go_ret
  exact ⟨by simp, (Upd.setCell (S := fun b => b = B) (Upd.refl _ _) ⟨B, 1, none⟩ _ (Or.inl rfl)).drewN _, (HB.out.set 1 (.int .i64 s)).drewN _⟩

theorem info71 : (Tryz.prog.info? 71).map (·.size) = some 10 := by kernel_rfl

set_option maxHeartbeats 400000 in
theorem stk_push (B A s : Nat) (fs : List Fr) (f : Fr) (w : World) (hs : s < fs.length) (hk : fs.length ≤ 4096) (hAB : A ≠ B) (hA : Blk w A (enc fs) 71) (hB : Blk w B (stk A fs.length s) 141) :
    Calls Tryz.prog 234 #[.pointer (some ⟨B, 0, none⟩), .agg f.cells.toArray] w fun e w' => e = .returned (.tuple #[]) ∧ Upd (fun b => b = A ∨ b = B) w w' ∧
      Blk w' A (enc (fs.set s { f with idx := s })) 71 ∧ Blk w' B (stk A fs.length ((s : Int) + 1)) 141 := by
  have h0 := hB.at (o := 0) rfl
  have h1 := hB.at (o := 1) rfl
  have hf := hB.free 1
  have HB := Lib.hid hB
  have HA := Lib.hid hA
  clear hB hA
  go_enter Tryz.func234, Tryz.ntmps234
  go_wp2
  refine wp_region_tail_at 10 (by kernel_rfl) (by kernel_rfl) (fun W1 hW1 => ?_)
  have UP := Lib.hid (show Upd (fun b => b = A ∨ b = B) w W1 by rw [hW1]; exact ((Upd.refl _ _).alloc _).drew)
  have HA1 := Lib.hid (show Blk W1 A (enc fs) 71 by rw [hW1]; exact (HA.out.alloc _).drew)
  have HB1 := Lib.hid (show Blk W1 B (stk A fs.length s) 141 by rw [hW1]; exact (HB.out.alloc _).drew)
  have HX := Lib.hid (show Blk W1 w.heap.size f.cells 71 by rw [hW1]; exact (Blk.new w f.cells 71).drew)
  clear hW1 h0 h1 hf
  have h0 := HB1.out.at (o := 0) rfl
  have h1 := HB1.out.at (o := 1) rfl
  simp only [List.take_succ_cons, List.take_zero, List.drop_succ_cons, List.drop_zero]
  repeat still_step
  refine wpStill_load_mid rfl 71 (.tmp 3) rfl w.heap.size 0 rfl f.cells _ (HX.out.range 0 _ (fun j _ => by rw [Nat.zero_add])) Tryz.underlying71 rfl info71 ?_
  repeat still_step
  refine wpStill_nil ?_
  refine wpList_store_mid rfl 71 (.tmp 13) (.tmp 12) rfl A (s * 10) f.cells.toArray (by simp [Act.eval]) rfl (HA1.out.there _ _ (by rw [enc_length]; show s * 10 + 10 ≤ _; omega)) info71 (all_oneCell_toArray (Fr.cells_one f)) ?_
  obtain ⟨W2, hW2⟩ : ∃ W2 : World, W1.setCells A (s * 10) f.cells.toArray.toList = W2 := ⟨_, rfl⟩
  rw [hW2]
  have UP2 := Lib.hid (show Upd (fun b => b = A ∨ b = B) w W2 by rw [← hW2]; exact UP.out.setCells _ _ _ (.inl (.inl rfl)))
  have HA2 := Lib.hid (show Blk W2 A (enc (fs.set s f)) 71 by rw [← hW2, ← enc_over fs s f hs]; exact HA1.out.sets _ _)
  have HB2 := Lib.hid (show Blk W2 B (stk A fs.length s) 141 by rw [← hW2]; exact HB1.out.sets_other _ _ _ (Ne.symm hAB))
  clear hW2 h0 h1 HA1 HB1 HX UP HA HB
  go_wp2
  refine wp_region_tail_at 14 (by kernel_rfl) (by kernel_rfl) (fun W3 hW3 => ?_)
  have UP3 := Lib.hid (show Upd (fun b => b = A ∨ b = B) w W3 by rw [hW3]; exact UP2.out.drew)
  have HA3 := Lib.hid (show Blk W3 A (enc (fs.set s f)) 71 by rw [hW3]; exact HA2.out.drew)
  have HB3 := Lib.hid (show Blk W3 B (stk A fs.length s) 141 by rw [hW3]; exact HB2.out.drew)
  clear hW3 HA2 HB2 UP2
  have h0 := HB3.out.at (o := 0) rfl
  have h1 := HB3.out.at (o := 1) rfl
  have hc := HA3.out.at (o := s * 10) (v := .int .i64 f.idx) (enc_at _ s 0 f (by simp [hs]) (by omega))
  have hcf := HA3.out.free (s * 10)
  simp only [List.take_succ_cons, List.take_zero, List.drop_succ_cons, List.drop_zero]
  repeat still_step
  refine wpStill_nil ?_
  have hbf := HB3.out.free 1
  go_wp2
  go_end0
  refine ⟨rfl, (UP3.out.setCell _ _ (.inl (.inl rfl))).setCell _ _ (.inl (.inr rfl)), ?_, ?_⟩
  · have e := enc_set1 (fs.set s f) s 0 (.int .i64 s) f { f with idx := s } (by simp [hs]) (by omega) rfl
    rw [List.set_set] at e
    rw [← e]
    exact (HA3.out.set _ _).set_other _ _ hAB
  · exact (HB3.out.set_other _ _ (Ne.symm hAB)).set 1 _

theorem mk139 (k : Nat) (hk : k ≤ 4096) (w : World) : (Instr.makeSlice 139 (.int .i64 (k : Int)) (.int .i64 (k : Int))).run Tryz.prog w = .ok (.slice (some ⟨w.heap.size, 0, none⟩) k k) (w.alloc (.cells (enc (List.replicate k Fr.zero)).toArray 71)) := by
  have h := run_made (P := Tryz.prog) 139 71 (.agg Fr.zero.cells.toArray) 80 Tryz.underlying139 (by kernel_rfl) (by decide) k (by omega) (by omega) w
  have e : enc (List.replicate k Fr.zero) = (List.replicate k Fr.zero.cells).flatten := by
    unfold enc
    rw [List.flatMap_def, List.map_replicate]
  rw [e]
  exact h

/-- A new state that holds nothing but its stack. -/
def stt (B : Nat) : List Value := [.pointer none, .pointer none, .pointer none, .nilFunc, .bool false, .int .i64 0, .int .i64 0, .int .i64 0, .int .i64 0, .bool false, .bool false, .bool false, .int .i32 0, .pointer none, .iface 117 (.pointer (some ⟨B, 0, none⟩)), .pointer none, .pointer none, .bool false, .pointer none, .bool false, .nilFunc]

set_option maxHeartbeats 400000 in
theorem new_state (k : Nat) (w : World) (hk : k ≤ 4096) :
    Calls Tryz.prog 52 #[.int .i64 k] w fun e w' => e = .returned (.pointer (some ⟨w.heap.size + 2, 0, none⟩)) ∧ Upd (fun _ => False) w w' ∧
      Blk w' w.heap.size (enc (List.replicate k Fr.zero)) 71 ∧ Blk w' (w.heap.size + 1) (stk w.heap.size k 0) 141 ∧ Blk w' (w.heap.size + 2) (stt (w.heap.size + 1)) 108 := by
  have hm := mk139 k hk
  go_enter Tryz.func52, Tryz.ntmps52
  go_wp2
  go_ret
  refine ⟨rfl, ?_, ?_, ?_, ?_⟩
  · exact (((Upd.refl _ _).alloc _).alloc _).alloc _
  · exact ((Blk.new _ _ _).alloc _).alloc _
  · exact (Blk.new_at (by simp) (stk w.heap.size k 0) 141).alloc _
  · exact Blk.new_at (by simp) (stt (w.heap.size + 1)) 108
end Go.Proofs.YtnmjidkbaohliaaGreatFmt
