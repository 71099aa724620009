/- Frames with a function, a parent and a base, laid into the fixed stack; registers: set, read, counted: walked. -/
import Derived.Test.YtnmjidkbaohliaaGreatFmtNumb
import Derived.Test.YtnmjidkbaohliaaGreatFmtFrameIs
namespace Go.Proofs.YtnmjidkbaohliaaGreatFmt
open Go.RowKit
set_option maxRecDepth 100000

/-- k rows of ten cells. -/
def rws (k : Nat) (f : Nat → List Value) : List Value := (tab k f).flatten

theorem flat10_length : ∀ (l : List (List Value)), (∀ x ∈ l, x.length = 10) → l.flatten.length = l.length * 10
  | [], _ => rfl
  | x :: r, h => by
    rw [List.flatten_cons, List.length_append, h x (by simp), flat10_length r (fun y hy => h y (by simp [hy])), List.length_cons]
    omega

theorem flat10_at : ∀ (l : List (List Value)), (∀ x ∈ l, x.length = 10) → ∀ (q c : Nat) (x : List Value), l[q]? = some x → c < 10 → l.flatten[q * 10 + c]? = x[c]?
  | [], _, q, c, x, hq, _ => by simp at hq
  | y :: r, h, 0, c, x, hq, hc => by
    have hy := h y (by simp)
    simp only [List.getElem?_cons_zero, Option.some.injEq] at hq
    subst hq
    rw [List.flatten_cons, List.getElem?_append_left (by omega), Nat.zero_mul, Nat.zero_add]
  | y :: r, h, q + 1, c, x, hq, hc => by
    have hy := h y (by simp)
    rw [List.flatten_cons, List.getElem?_append_right (by omega), show (q + 1) * 10 + c - y.length = q * 10 + c by omega]
    exact flat10_at r (fun z hz => h z (by simp [hz])) q c x (by simpa using hq) hc

theorem tab_mem {α : Type} {k : Nat} {f : Nat → α} {p : α → Prop} (h : ∀ i, i < k → p (f i)) : ∀ x ∈ tab k f, p x := fun x hx => by
  obtain ⟨i, hi, rfl⟩ := List.mem_map.1 hx
  exact h i (List.mem_range.1 hi)

theorem rws_length (k : Nat) (f : Nat → List Value) (hf : ∀ i, i < k → (f i).length = 10) : (rws k f).length = k * 10 := by
  unfold rws
  rw [flat10_length _ (tab_mem hf), tab_length]
theorem rws_at {k : Nat} {f : Nat → List Value} (hf : ∀ i, i < k → (f i).length = 10) {i c : Nat} (hi : i < k) (hc : c < 10) : (rws k f)[i * 10 + c]? = (f i)[c]? :=
  flat10_at _ (tab_mem hf) i c _ (tab_in hi) hc
theorem rws_over {k : Nat} {f : Nat → List Value} (hf : ∀ i, i < k → (f i).length = 10) {i : Nat} (hi : i < k) {x : List Value} (hx : x.length = 10) : over (rws k f) (i * 10) x = rws k (fun m => if m = i then x else f m) := by
  have hg : ∀ m, m < k → ((fun m => if m = i then x else f m) m).length = 10 := fun m hm => by
    show (if m = i then x else f m).length = 10
    split
    · exact hx
    · exact hf m hm
  apply List.ext_getElem?
  intro o
  obtain ⟨q, j, hj, rfl⟩ : ∃ q j, j < 10 ∧ o = q * 10 + j := ⟨o / 10, o % 10, by omega, by omega⟩
  rw [over_at, rws_length k f hf, hx]
  by_cases hq : q < k
  · rw [rws_at hg hq hj]
    by_cases h : q = i
    · subst h
      rw [if_pos ⟨by omega, by omega, by omega⟩, if_pos rfl]
      congr 1; omega
    · rw [if_neg (by omega), if_neg h, rws_at hf hq hj]
  · rw [if_neg (by omega), List.getElem?_eq_none (by rw [rws_length k f hf]; omega), List.getElem?_eq_none (by rw [rws_length k _ hg]; omega)]

/-- A frame of these laws. -/
def lfr (FN : Nat) (par : Option Addr) (i : Nat) (b : Int) : List Value := [.int .i64 i, .pointer (some ⟨FN, 0, none⟩), .pointer par, .int .i64 0, .int .i64 b, .int .i64 (b + 1), .int .i64 0, .int .i64 0, .int .i64 0, .int .i64 0]
/-- The frame below the i-th. -/
def below (A i : Nat) : Option Addr := if i = 0 then none else some ⟨A, (i - 1) * 10, none⟩

theorem lfr_one (FN : Nat) (par : Option Addr) (i : Nat) (b : Int) : ∀ v ∈ lfr FN par i b, v.oneCell' = true := by
  intro v hv
  unfold lfr at hv
  simp only [List.mem_cons, List.not_mem_nil, or_false] at hv
  rcases hv with rfl | rfl | rfl | rfl | rfl | rfl | rfl | rfl | rfl | rfl <;> rfl

set_option maxHeartbeats 400000 in
theorem set_frame (A B FN k i : Nat) (par : Option Addr) (b : Int) (f : Nat → List Value) (w : World) (hf : ∀ i, i < k → (f i).length = 10) (hi : i < k) (_hk : k ≤ 4096) (h0 : 0 ≤ b) (h1 : b ≤ 65536) (hAB : A ≠ B)
    (hA : Blk w A (rws k f) 71) (hB : Blk w B (stk A k k) 141) :
    Calls Tryz.prog 56 #[.pointer (some ⟨B, 0, none⟩), .int .i64 i, .pointer par, .pointer (some ⟨FN, 0, none⟩), .int .i64 0, .int .i64 b] w fun e w' => e = .returned (.pointer (some ⟨A, i * 10, none⟩)) ∧ Upd (fun c => c = A) w w' ∧ Blk w' A (rws k (fun m => if m = i then lfr FN par i b else f m)) 71 := by
  have s0 := hB.at (o := 0) rfl
  have HA := Lib.hid hA
  have HB := Lib.hid hB
  have HF := Lib.hid hf
  have HT := Lib.hid (hA.there (i * 10) 10 (by rw [rws_length k f hf]; omega))
  clear hA hB hf
  go_enter Tryz.func56, Tryz.ntmps56
  go_wp2_with (first | (refine wpList_store_mid rfl 71 (.tmp 26) (.tmp 25) rfl A (i * 10) (lfr FN par i b).toArray rfl rfl HT.out info71 (all_oneCell_toArray (lfr_one FN par i b)) ?_; go_must (obtain ⟨W2, hW2⟩ : ∃ W2 : World, w.setCells A (i * 10) (lfr FN par i b).toArray.toList = W2 := ⟨_, rfl⟩; rw [hW2]; have UP2 := Lib.hid (show Upd (fun c => c = A) w W2 by rw [← hW2]; exact (Upd.refl _ _).setCells _ _ _ (.inl rfl)); have HA2 := Lib.hid (show Blk W2 A (rws k (fun m => if m = i then lfr FN par i b else f m)) 71 by rw [← hW2, ← rws_over HF.out hi rfl]; exact HA.out.sets _ _); have s0' : W2.cell? ⟨B, 0, none⟩ = some (.slice (some ⟨A, 0, none⟩) k k) := (show Blk W2 B (stk A k k) 141 by rw [← hW2]; exact HB.out.sets_other _ _ _ (Ne.symm hAB)).at rfl; clear hW2 s0 HT)))
  go_ret
  exact ⟨rfl, UP2.out, HA2.out⟩
end Go.Proofs.YtnmjidkbaohliaaGreatFmt
