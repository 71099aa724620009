/- Blocks known whole, and what a call may have changed: small laws on worlds. -/
import Derived.WalkKit
import Derived.WalkSpells
import Derived.WalkLawsBesides
import Derived.Deep.MidRow
import Derived.Deep.Draws
import Derived.BigQuiet
import Derived.StillTailTactics
import Derived.Deep.QuietTactic
namespace Go
open Go.RowKit

/-- Block b holds the cells l, of element type t, none of them frozen. -/
def Blk (w : World) (b : Nat) (l : List Value) (t : TypeId) : Prop := w.heap[b]? = some (.cells l.toArray t (0, 0))

theorem Blk.cell {w : World} {b : Nat} {l : List Value} {t : TypeId} (h : Blk w b l t) (o : Nat) : w.cell? ⟨b, o, none⟩ = l[o]? := by
  unfold Blk at h
  simp [World.cell?, h]

theorem Blk.at {w : World} {b : Nat} {l : List Value} {t : TypeId} (h : Blk w b l t) {o : Nat} {v : Value} (hv : l[o]? = some v) : w.cell? ⟨b, o, none⟩ = some v := (h.cell o).trans hv

theorem Blk.free {w : World} {b : Nat} {l : List Value} {t : TypeId} (h : Blk w b l t) (o : Nat) : w.frozen? ⟨b, o, none⟩ = false := by
  unfold Blk at h
  simp [World.frozen?, h]

theorem Blk.lt {w : World} {b : Nat} {l : List Value} {t : TypeId} (h : Blk w b l t) : b < w.heap.size := by
  unfold Blk at h
  exact (Array.getElem?_eq_some_iff.1 h).1

theorem Blk.new (w : World) (l : List Value) (t : TypeId) : Blk (w.alloc (.cells l.toArray t)) w.heap.size l t := by
  unfold Blk World.alloc
  simp

theorem Blk.new_at {w : World} {b : Nat} (hb : b = w.heap.size) (l : List Value) (t : TypeId) : Blk (w.alloc (.cells l.toArray t)) b l t := by
  subst hb
  exact Blk.new w l t

theorem Blk.alloc {w : World} {b : Nat} {l : List Value} {t : TypeId} (h : Blk w b l t) (o : Obj) : Blk (w.alloc o) b l t := by
  have hl := h.lt
  unfold Blk at *
  rw [Below.heap_alloc _ _ _ hl]
  exact h

theorem Blk.drew {w : World} {b : Nat} {l : List Value} {t : TypeId} (h : Blk w b l t) : Blk w.drew b l t := h
theorem Blk.drewN {w : World} {b : Nat} {l : List Value} {t : TypeId} (h : Blk w b l t) (n : Nat) : Blk (w.drewN n) b l t := h

theorem Blk.set {w : World} {b : Nat} {l : List Value} {t : TypeId} (h : Blk w b l t) (o : Nat) (v : Value) : Blk (w.setCell ⟨b, o, none⟩ v) b (l.set o v) t := by
  unfold Blk at *
  simp only [World.setCell, Array.getElem?_modify, if_true, h, Option.map_some]
  simp

theorem Blk.set_other {w : World} {b : Nat} {l : List Value} {t : TypeId} (h : Blk w b l t) (a : Addr) (v : Value) (hne : b ≠ a.block) : Blk (w.setCell a v) b l t := by
  unfold Blk at *
  rw [Below.heap_setCell _ _ _ _ hne]
  exact h

/-- The list with vs laid over it from o on. -/
def over (l : List Value) : Nat → List Value → List Value
  | _, [] => l
  | o, v :: r => over (l.set o v) (o + 1) r

theorem over_length : ∀ (vs : List Value) (l : List Value) (o : Nat), (over l o vs).length = l.length
  | [], _, _ => rfl
  | v :: r, l, o => by rw [over, over_length r]; simp

theorem over_at : ∀ (vs : List Value) (l : List Value) (o j : Nat), (over l o vs)[j]? = if o ≤ j ∧ j < o + vs.length ∧ j < l.length then vs[j - o]? else l[j]?
  | [], l, o, j => by simp [over]; omega
  | v :: r, l, o, j => by
    rw [over, over_at r]
    simp only [List.length_set, List.length_cons]
    by_cases h1 : o + 1 ≤ j ∧ j < o + 1 + r.length ∧ j < l.length
    · rw [if_pos h1, if_pos (by omega), show j - o = (j - (o + 1)) + 1 by omega, List.getElem?_cons_succ]
    · rw [if_neg h1, List.getElem?_set]
      by_cases h2 : o = j
      · subst h2
        by_cases h3 : o < l.length
        · rw [if_pos rfl, if_pos h3, if_pos (by omega), Nat.sub_self, List.getElem?_cons_zero]
        · rw [if_pos rfl, if_neg h3, if_neg (by omega), List.getElem?_eq_none (by omega)]
      · rw [if_neg h2, if_neg (by omega)]

theorem Blk.sets {w : World} {b : Nat} {l : List Value} {t : TypeId} (h : Blk w b l t) (o : Nat) (vs : List Value) : Blk (w.setCells b o vs) b (over l o vs) t := by
  induction vs generalizing w l o with
  | nil => exact h
  | cons v r ih => exact ih (h.set o v) (o + 1)

theorem Blk.sets_other {w : World} {b : Nat} {l : List Value} {t : TypeId} (h : Blk w b l t) (b' o : Nat) (vs : List Value) (hne : b ≠ b') : Blk (w.setCells b' o vs) b l t := by
  induction vs generalizing w o with
  | nil => exact h
  | cons v r ih => exact ih (h.set_other _ v hne) (o + 1)

theorem Blk.there {w : World} {b : Nat} {l : List Value} {t : TypeId} (h : Blk w b l t) (o n : Nat) (hn : o + n ≤ l.length) : w.there b o n := fun j hj =>
  ⟨by rw [h.cell, List.getElem?_eq_getElem (by omega)]; rfl, h.free _⟩

theorem Blk.range {w : World} {b : Nat} {l : List Value} {t : TypeId} (h : Blk w b l t) (o : Nat) (cs : List Value) (hc : ∀ j, j < cs.length → l[o + j]? = cs[j]?) : w.rangeAt b o cs := fun j v hv => by
  have hj : j < cs.length := (List.getElem?_eq_some_iff.1 hv).1
  rw [h.cell, hc j hj, hv]

/-- w' is w but for the blocks of S, and new blocks. -/
structure Upd (S : Nat → Prop) (w w' : World) : Prop where
  os : w'.os = w.os
  tape : w'.tape = w.tape
  output : w'.output = w.output
  size : w.heap.size ≤ w'.heap.size
  block : ∀ k, k < w.heap.size → ¬ S k → w'.heap[k]? = w.heap[k]?

theorem Upd.refl (S : Nat → Prop) (w : World) : Upd S w w := ⟨rfl, rfl, rfl, Nat.le_refl _, fun _ _ _ => rfl⟩
theorem Upd.trans {S : Nat → Prop} {a b c : World} (h : Upd S a b) (k : Upd S b c) : Upd S a c :=
  ⟨k.os.trans h.os, k.tape.trans h.tape, k.output.trans h.output, Nat.le_trans h.size k.size, fun i hi hs => (k.block i (Nat.lt_of_lt_of_le hi h.size) hs).trans (h.block i hi hs)⟩
/-- What is changed further lies in new blocks. -/
theorem Upd.trans_new {S T : Nat → Prop} {a b c : World} (h : Upd S a b) (k : Upd T b c) (hT : ∀ i, T i → a.heap.size ≤ i) : Upd S a c :=
  ⟨k.os.trans h.os, k.tape.trans h.tape, k.output.trans h.output, Nat.le_trans h.size k.size, fun i hi hs => (k.block i (Nat.lt_of_lt_of_le hi h.size) (fun ht => by have := hT i ht; omega)).trans (h.block i hi hs)⟩
theorem Upd.mono {S T : Nat → Prop} {a b : World} (h : Upd S a b) (hst : ∀ k, k < a.heap.size → S k → T k) : Upd T a b :=
  ⟨h.os, h.tape, h.output, h.size, fun i hi hs => h.block i hi (fun h' => hs (hst i hi h'))⟩
theorem Upd.alloc {S : Nat → Prop} {a w : World} (h : Upd S a w) (o : Obj) : Upd S a (w.alloc o) :=
  h.trans ⟨rfl, rfl, rfl, by simp, fun k hk _ => Below.heap_alloc _ _ _ hk⟩
theorem Upd.drew {S : Nat → Prop} {a w : World} (h : Upd S a w) : Upd S a w.drew := ⟨h.os, h.tape, h.output, h.size, h.block⟩
theorem Upd.drewN {S : Nat → Prop} {a w : World} (h : Upd S a w) (n : Nat) : Upd S a (w.drewN n) := ⟨h.os, h.tape, h.output, h.size, h.block⟩
theorem Upd.setCell {S : Nat → Prop} {a w : World} (h : Upd S a w) (p : Addr) (v : Value) (hp : S p.block ∨ a.heap.size ≤ p.block) : Upd S a (w.setCell p v) :=
  ⟨h.os, h.tape, h.output, by simpa using h.size, fun k hk hs => by
    rw [Below.heap_setCell _ _ _ _ (fun e => by subst e; rcases hp with hp | hp; exact hs hp; omega)]
    exact h.block k hk hs⟩
theorem Upd.setCells {S : Nat → Prop} {a w : World} (h : Upd S a w) (b o : Nat) (vs : List Value) (hp : S b ∨ a.heap.size ≤ b) : Upd S a (w.setCells b o vs) := by
  induction vs generalizing w o with
  | nil => exact h
  | cons v r ih => exact ih (h.setCell ⟨b, o, none⟩ v hp) (o + 1)
theorem Upd.blk {S : Nat → Prop} {w w' : World} (h : Upd S w w') {b : Nat} {l : List Value} {t : TypeId} (hb : Blk w b l t) (hs : ¬ S b) : Blk w' b l t := by
  have := hb.lt
  unfold Blk at *
  rw [h.block b this hs]
  exact hb
theorem Upd.below {S : Nat → Prop} {w w' : World} (h : Upd S w w') {B : Nat} (hB : B ≤ w.heap.size) (hs : ∀ k, S k → B ≤ k) : Below B w w' :=
  ⟨h.os, h.tape, h.output, h.size, fun k hk => h.block k (by omega) (fun h' => by have := hs k h'; omega)⟩
theorem Upd.of_below {w w' : World} (h : Below w.heap.size w w') : Upd (fun _ => False) w w' := ⟨h.os, h.tape, h.output, h.size, fun k hk _ => h.block k hk⟩
theorem Upd.cells {w w' : World} (h : Upd (fun _ => False) w w') {a : Addr} {k : Nat} {v : Nat → Value} (hc : ∀ j, j < k → w.cell? (a.add j) = some (v j)) : ∀ j, j < k → w'.cell? (a.add j) = some (v j) := fun j hj => by
  have := hc j hj
  rw [← this]
  exact World.cell?_of_block (h.block _ (World.block_lt_of_cell? w _ this) (fun h => h))
theorem Below.blk {B : Nat} {w w' : World} (h : Below B w w') {b : Nat} {l : List Value} {t : TypeId} (hb : Blk w b l t) (hs : b < B) : Blk w' b l t := by
  unfold Blk at *
  rw [h.block b hs]
  exact hb

/-- A region that draws its order and ends in operations that change memory: the world behind the draw under a name of its own. -/
theorem wp_region_tail_at {P : Program} {id : Nat} {Q : Exit → Act → World → Prop} {a : Act} {w : World} {l : List Oper} (n : Nat) (hm : P.follows .mixedOrders = true) (hB : Region.lexTailB .any l.toArray n = true)
    (h : ∀ W1 : World, W1 = w.drew → wpStill P l.toArray W1 (fun a' => wpList P l.toArray Q (l.drop n) a' W1) (l.take n) a) : (Code.region id l.toArray true).wp P Q a w :=
  wp_region_still_tail n hm hB (h _ rfl)

/-- A whole struct, by value, read in the quiet head of such a region. -/
theorem wpStill_load_mid {P : Program} {ops : Array Oper} {rest : List Oper} {op : Oper} {a : Act} {w : World} {Q : Act → Prop} (hgd : op.guard = none) (ty : TypeId) (x : Operand) (ho : op.op = .load ty x)
    (b o : Nat) (hx : a.eval x = .pointer (some ⟨b, o, none⟩)) (cs : List Value) (d : TypeDesc) (hc : w.rangeAt b o cs)
    (hu : P.underlying ty = some d) (hd : d.isRow = true) (hi : (P.info? ty).map (·.size) = some cs.length)
    (h : wpStill P ops w Q rest (a.put op.dst (.agg cs.toArray))) : wpStill P ops w Q (op :: rest) a := by
  unfold wpStill
  rw [if_pos (by simp [Region.wanted, hgd])]
  unfold Oper.still execOp
  simp only [ho, hx, Instr.loadAt, Instr.sureAddr, Sem.run_bind, Sem.run_pure, Result.andThen_ok, run_loadVar_mid w b o ty cs d hc hu hd hi]
  exact ⟨rfl, h⟩


theorem flat_at {α : Type} (z : List α) : ∀ (n q j : Nat), q < n → j < z.length → ((List.replicate n z).flatten)[q * z.length + j]? = z[j]?
  | n + 1, 0, j, _, hj => by
    rw [List.replicate_succ, List.flatten_cons, List.getElem?_append_left (by omega)]
    congr 1; omega
  | n + 1, q + 1, j, hq, hj => by
    rw [List.replicate_succ, List.flatten_cons, List.getElem?_append_right (by rw [Nat.add_mul]; omega)]
    rw [show (q + 1) * z.length + j - z.length = q * z.length + j by rw [Nat.add_mul]; omega]
    exact flat_at z n q j (by omega) hj

theorem madeCells_flat (z : Array Value) (n : Nat) (hz : 0 < z.size) : madeCells z (n * z.size) = ((List.replicate n z.toList).flatten).toArray := by
  apply Array.ext_getElem?
  intro o
  by_cases ho : o < n * z.size
  · have e1 : o / z.size * z.size + o % z.size = o := by rw [Nat.mul_comm]; exact Nat.div_add_mod o z.size
    have hq : o / z.size < n := Nat.div_lt_of_lt_mul (by rw [Nat.mul_comm]; exact ho)
    have hj : o % z.size < z.size := Nat.mod_lt _ hz
    have h2 := flat_at z.toList n (o / z.size) (o % z.size) hq (by rw [Array.length_toList]; exact hj)
    rw [Array.length_toList, e1] at h2
    unfold madeCells
    rw [Array.getElem?_map, Array.getElem?_range, if_pos ho]
    simp only [List.getElem?_toArray, Option.map_some]
    rw [h2]
    simp [hj]
  · rw [Array.getElem?_eq_none (by rw [size_madeCells]; omega), Array.getElem?_eq_none (by rw [List.size_toArray, List.length_flatten, List.map_replicate, List.sum_replicate_nat]; simpa using ho)]

/-- 'make([]T, n)': the new block holds n zeros. -/
theorem run_made {P : Program} (t e : TypeId) (z : Value) (bytes : Nat) (ht : P.underlying t = some (.slice e)) (hinfo : (P.info? e).map (fun i => (i.zero, i.size, i.bytes)) = some (some z, z.cells.size, bytes)) (hz : 0 < z.cells.size)
    (n : Nat) (hbytes : bytes * n ≤ 281474976710656) (h63 : n ≤ 9223372036854775807) (w : World) :
    (Instr.makeSlice t (.int .i64 (n : Int)) (.int .i64 (n : Int))).run P w = .ok (.slice (some ⟨w.heap.size, 0, none⟩) n n) (w.alloc (.cells ((List.replicate n z.cells.toList).flatten).toArray e)) := by
  obtain ⟨i, hi, hzz⟩ := Option.map_eq_some_iff.1 hinfo
  simp only [Prod.mk.injEq] at hzz
  obtain ⟨h1, h2, h3⟩ := hzz
  have hb' : (i.bytes : Int) * (n : Int) ≤ 281474976710656 := by
    have h : ((i.bytes * n : Nat) : Int) ≤ 281474976710656 := by rw [h3]; omega
    rwa [Int.natCast_mul] at h
  have h := run_make (P := P) w t e i z ht hi h1 .i64 .i64 n n (by omega) (Int.le_refl _) hb' (by omega)
  rw [Int.toNat_natCast, h2, madeCells_flat _ _ hz] at h
  exact h


/-! ### tables: a list given by a function of the place -/
def tab {α : Type} (k : Nat) (f : Nat → α) : List α := (List.range k).map f
theorem tab_length {α : Type} (k : Nat) (f : Nat → α) : (tab k f).length = k := by simp [tab]
theorem tab_at {α : Type} (k : Nat) (f : Nat → α) (m : Nat) : (tab k f)[m]? = if m < k then some (f m) else none := by
  unfold tab
  rw [List.getElem?_map]
  by_cases h : m < k
  · rw [if_pos h, List.getElem?_range h]; rfl
  · rw [if_neg h, List.getElem?_eq_none (by rw [List.length_range]; omega)]; rfl
theorem tab_in {α : Type} {k : Nat} {f : Nat → α} {m : Nat} (h : m < k) : (tab k f)[m]? = some (f m) := by rw [tab_at, if_pos h]
theorem tab_congr {α : Type} {k : Nat} {f g : Nat → α} (h : ∀ m, m < k → f m = g m) : tab k f = tab k g := by
  apply List.ext_getElem?
  intro m
  rw [tab_at, tab_at]
  split
  · rw [h m ‹_›]
  · rfl
theorem tab_set {α : Type} (k : Nat) (f : Nat → α) (j : Nat) (v : α) : (tab k f).set j v = tab k (fun m => if m = j then v else f m) := by
  apply List.ext_getElem?
  intro m
  rw [List.getElem?_set, tab_at, tab_at, tab_length]
  by_cases h : j = m
  · subst h
    simp
  · rw [if_neg h, if_neg (Ne.symm h)]
theorem tab_rep {α : Type} (k : Nat) (z : α) : List.replicate k z = tab k (fun _ => z) := by
  apply List.ext_getElem?
  intro m
  rw [tab_at, List.getElem?_replicate]

end Go
