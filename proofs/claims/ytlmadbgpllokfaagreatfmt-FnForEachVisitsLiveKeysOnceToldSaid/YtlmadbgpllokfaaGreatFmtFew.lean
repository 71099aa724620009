/- FnForEachVisitsLiveKeysOnce: what the walk keeps behind the clones. -/
import Derived.Test.YtlmadbgpllokfaaGreatFmtFvd
namespace Go.Proofs.YtlmadbgpllokfaaGreatFmt
open Go.RowKit Go.Mapy Go.Tbl
set_option maxRecDepth 100000

/-- The six boxed parameters. -/
structure Six (w : World) (p0 p1 p2 p3 p4 p5 : Nat) (v0 v1 v2 v3 v4 v5 : Value) : Prop where
  z0 : Blk w p0 [v0] 93
  z1 : Blk w p1 [v1] 58
  z2 : Blk w p2 [v2] 59
  z3 : Blk w p3 [v3] 57
  z4 : Blk w p4 [v4] 58
  z5 : Blk w p5 [v5] 59
theorem Six.same {w w' : World} {p0 p1 p2 p3 p4 p5 : Nat} {v0 v1 v2 v3 v4 v5 : Value} (h : Six w p0 p1 p2 p3 p4 p5 v0 v1 v2 v3 v4 v5) {X : Nat → Prop} (hu : Upd X w w') (hx : ¬ X p0 ∧ ¬ X p1 ∧ ¬ X p2 ∧ ¬ X p3 ∧ ¬ X p4 ∧ ¬ X p5) : Six w' p0 p1 p2 p3 p4 p5 v0 v1 v2 v3 v4 v5 :=
  ⟨hu.blk h.z0 hx.1, hu.blk h.z1 hx.2.1, hu.blk h.z2 hx.2.2.1, hu.blk h.z3 hx.2.2.2.1, hu.blk h.z4 hx.2.2.2.2.1, hu.blk h.z5 hx.2.2.2.2.2⟩
theorem Six.keep {w w' : World} {p0 p1 p2 p3 p4 p5 : Nat} {v0 v1 v2 v3 v4 v5 : Value} (h : Six w p0 p1 p2 p3 p4 p5 v0 v1 v2 v3 v4 v5) (hu : Upd (fun _ => False) w w') : Six w' p0 p1 p2 p3 p4 p5 v0 v1 v2 v3 v4 v5 :=
  h.same hu ⟨fun h => h, fun h => h, fun h => h, fun h => h, fun h => h, fun h => h⟩
def Low (w : World) (p0 p1 p2 p3 p4 p5 : Nat) : Prop := p0 = w.heap.size ∧ p1 = p0 + 1 ∧ p2 = p1 + 1 ∧ p3 = p2 + 1 ∧ p4 = p3 + 1 ∧ p5 = p4 + 1
theorem Six.set0 {w' w : World} {p0 p1 p2 p3 p4 p5 : Nat} {v0 v1 v2 v3 v4 v5 : Value} (h : Six w p0 p1 p2 p3 p4 p5 v0 v1 v2 v3 v4 v5) (hl : Low w' p0 p1 p2 p3 p4 p5) (x : Value) : Six (w.setCell ⟨p0, 0, none⟩ x) p0 p1 p2 p3 p4 p5 x v1 v2 v3 v4 v5 := by
  obtain ⟨h0, h1, h2, h3, h4, h5⟩ := hl
  constructor
  · exact h.z0.set 0 x
  · exact h.z1.set_other ⟨p0, 0, none⟩ x (by show p1 ≠ p0; omega)
  · exact h.z2.set_other ⟨p0, 0, none⟩ x (by show p2 ≠ p0; omega)
  · exact h.z3.set_other ⟨p0, 0, none⟩ x (by show p3 ≠ p0; omega)
  · exact h.z4.set_other ⟨p0, 0, none⟩ x (by show p4 ≠ p0; omega)
  · exact h.z5.set_other ⟨p0, 0, none⟩ x (by show p5 ≠ p0; omega)
theorem Six.set1 {w' w : World} {p0 p1 p2 p3 p4 p5 : Nat} {v0 v1 v2 v3 v4 v5 : Value} (h : Six w p0 p1 p2 p3 p4 p5 v0 v1 v2 v3 v4 v5) (hl : Low w' p0 p1 p2 p3 p4 p5) (x : Value) : Six (w.setCell ⟨p1, 0, none⟩ x) p0 p1 p2 p3 p4 p5 v0 x v2 v3 v4 v5 := by
  obtain ⟨h0, h1, h2, h3, h4, h5⟩ := hl
  constructor
  · exact h.z0.set_other ⟨p1, 0, none⟩ x (by show p0 ≠ p1; omega)
  · exact h.z1.set 0 x
  · exact h.z2.set_other ⟨p1, 0, none⟩ x (by show p2 ≠ p1; omega)
  · exact h.z3.set_other ⟨p1, 0, none⟩ x (by show p3 ≠ p1; omega)
  · exact h.z4.set_other ⟨p1, 0, none⟩ x (by show p4 ≠ p1; omega)
  · exact h.z5.set_other ⟨p1, 0, none⟩ x (by show p5 ≠ p1; omega)
theorem Six.set2 {w' w : World} {p0 p1 p2 p3 p4 p5 : Nat} {v0 v1 v2 v3 v4 v5 : Value} (h : Six w p0 p1 p2 p3 p4 p5 v0 v1 v2 v3 v4 v5) (hl : Low w' p0 p1 p2 p3 p4 p5) (x : Value) : Six (w.setCell ⟨p2, 0, none⟩ x) p0 p1 p2 p3 p4 p5 v0 v1 x v3 v4 v5 := by
  obtain ⟨h0, h1, h2, h3, h4, h5⟩ := hl
  constructor
  · exact h.z0.set_other ⟨p2, 0, none⟩ x (by show p0 ≠ p2; omega)
  · exact h.z1.set_other ⟨p2, 0, none⟩ x (by show p1 ≠ p2; omega)
  · exact h.z2.set 0 x
  · exact h.z3.set_other ⟨p2, 0, none⟩ x (by show p3 ≠ p2; omega)
  · exact h.z4.set_other ⟨p2, 0, none⟩ x (by show p4 ≠ p2; omega)
  · exact h.z5.set_other ⟨p2, 0, none⟩ x (by show p5 ≠ p2; omega)
theorem Six.set3 {w' w : World} {p0 p1 p2 p3 p4 p5 : Nat} {v0 v1 v2 v3 v4 v5 : Value} (h : Six w p0 p1 p2 p3 p4 p5 v0 v1 v2 v3 v4 v5) (hl : Low w' p0 p1 p2 p3 p4 p5) (x : Value) : Six (w.setCell ⟨p3, 0, none⟩ x) p0 p1 p2 p3 p4 p5 v0 v1 v2 x v4 v5 := by
  obtain ⟨h0, h1, h2, h3, h4, h5⟩ := hl
  constructor
  · exact h.z0.set_other ⟨p3, 0, none⟩ x (by show p0 ≠ p3; omega)
  · exact h.z1.set_other ⟨p3, 0, none⟩ x (by show p1 ≠ p3; omega)
  · exact h.z2.set_other ⟨p3, 0, none⟩ x (by show p2 ≠ p3; omega)
  · exact h.z3.set 0 x
  · exact h.z4.set_other ⟨p3, 0, none⟩ x (by show p4 ≠ p3; omega)
  · exact h.z5.set_other ⟨p3, 0, none⟩ x (by show p5 ≠ p3; omega)
theorem Six.set4 {w' w : World} {p0 p1 p2 p3 p4 p5 : Nat} {v0 v1 v2 v3 v4 v5 : Value} (h : Six w p0 p1 p2 p3 p4 p5 v0 v1 v2 v3 v4 v5) (hl : Low w' p0 p1 p2 p3 p4 p5) (x : Value) : Six (w.setCell ⟨p4, 0, none⟩ x) p0 p1 p2 p3 p4 p5 v0 v1 v2 v3 x v5 := by
  obtain ⟨h0, h1, h2, h3, h4, h5⟩ := hl
  constructor
  · exact h.z0.set_other ⟨p4, 0, none⟩ x (by show p0 ≠ p4; omega)
  · exact h.z1.set_other ⟨p4, 0, none⟩ x (by show p1 ≠ p4; omega)
  · exact h.z2.set_other ⟨p4, 0, none⟩ x (by show p2 ≠ p4; omega)
  · exact h.z3.set_other ⟨p4, 0, none⟩ x (by show p3 ≠ p4; omega)
  · exact h.z4.set 0 x
  · exact h.z5.set_other ⟨p4, 0, none⟩ x (by show p5 ≠ p4; omega)
theorem Six.set5 {w' w : World} {p0 p1 p2 p3 p4 p5 : Nat} {v0 v1 v2 v3 v4 v5 : Value} (h : Six w p0 p1 p2 p3 p4 p5 v0 v1 v2 v3 v4 v5) (hl : Low w' p0 p1 p2 p3 p4 p5) (x : Value) : Six (w.setCell ⟨p5, 0, none⟩ x) p0 p1 p2 p3 p4 p5 v0 v1 v2 v3 v4 x := by
  obtain ⟨h0, h1, h2, h3, h4, h5⟩ := hl
  constructor
  · exact h.z0.set_other ⟨p5, 0, none⟩ x (by show p0 ≠ p5; omega)
  · exact h.z1.set_other ⟨p5, 0, none⟩ x (by show p1 ≠ p5; omega)
  · exact h.z2.set_other ⟨p5, 0, none⟩ x (by show p2 ≠ p5; omega)
  · exact h.z3.set_other ⟨p5, 0, none⟩ x (by show p3 ≠ p5; omega)
  · exact h.z4.set_other ⟨p5, 0, none⟩ x (by show p4 ≠ p5; omega)
  · exact h.z5.set 0 x
theorem cell_other {w : World} {b o g i : Nat} {v : Value} (h : w.cell? ⟨b, o, none⟩ = some v) (hb : b ≠ g) (x : Value) : (w.setCell ⟨g, i, none⟩ x).cell? ⟨b, o, none⟩ = some v := by
  have hl := World.block_lt_of_cell? w _ h
  rw [← h]
  exact World.cell?_of_block (a := ⟨b, o, none⟩) (((Upd.refl (fun c => c = g) w).setCell ⟨g, i, none⟩ x (.inl rfl)).block b hl hb)
/-- Cells of a slice within a span of blocks. -/
def Far (w : World) (lo hi : Nat) (a : Option Addr) (k : Nat) (f : Nat → Value) : Prop := ∀ j, j < k → ∃ b off, a = some ⟨b, off, none⟩ ∧ lo ≤ b ∧ b < hi ∧ w.cell? ⟨b, off + j, none⟩ = some (f j)
theorem Far.held {w : World} {lo hi : Nat} {a : Option Addr} {k : Nat} {f : Nat → Value} (h : Far w lo hi a k f) : Held w hi a k f := fun j hj => by
  obtain ⟨b, off, h1, _, h3, h4⟩ := h j hj
  exact ⟨b, off, h1, h3, h4⟩
theorem Far.upd {w w' : World} {lo hi : Nat} {a : Option Addr} {k : Nat} {f : Nat → Value} {X : Nat → Prop} (h : Far w lo hi a k f) (hu : Upd X w w') (hX : ∀ c, X c → c < lo ∨ hi ≤ c) : Far w' lo hi a k f := fun j hj => by
  obtain ⟨b, off, h1, h2, h3, h4⟩ := h j hj
  have hb := World.block_lt_of_cell? w _ h4
  refine ⟨b, off, h1, h2, h3, ?_⟩
  rw [← h4]
  exact World.cell?_of_block (a := ⟨b, off + j, none⟩) (hu.block b hb (fun hc => by rcases hX b hc with h | h <;> omega))
theorem Far.more {w : World} {lo hi hi' : Nat} {a : Option Addr} {k : Nat} {f : Nat → Value} (h : Far w lo hi a k f) (hh : hi ≤ hi') : Far w lo hi' a k f := fun j hj => by
  obtain ⟨b, off, h1, h2, h3, h4⟩ := h j hj
  exact ⟨b, off, h1, h2, Nat.lt_of_lt_of_le h3 hh, h4⟩
theorem Far.new {w' : World} {b lo : Nat} {a : Option Addr} {k : Nat} {f : Nat → Value} {t : TypeId} (h : 0 < k → a = some ⟨b, 0, none⟩ ∧ Blk w' b (tab k f) t) (hlo : lo ≤ b) : Far w' lo w'.heap.size a k f := fun j hj => by
  obtain ⟨h1, h2⟩ := h (by omega)
  exact ⟨b, 0, h1, hlo, h2.lt, h2.at (by rw [Nat.zero_add]; exact tab_in hj)⟩

/-- The boxed parameters, the two lengths, the state; the clones' rows. -/
structure Bs (w : World) (p0 p1 p2 p3 p4 p5 p6 p7 p8 ni ns La nI c1 nV c2 nD c3 nS c4 nW c5 nE c6 : Nat) (a1 a2 a3 a4 a5 a6 : Option Addr) (ik : Nat → Int) (iv : Nat → Nat) (id : Nat → Bool) (sk : Nat → ByteArray) (sv : Nat → Nat) (sd : Nat → Bool) : Prop where
  z0 : Blk w p0 [.slice a1 nI c1] 93
  z1 : Blk w p1 [.slice a2 nV c2] 58
  z2 : Blk w p2 [.slice a3 nD c3] 59
  z3 : Blk w p3 [.slice a4 nS c4] 57
  z4 : Blk w p4 [.slice a5 nW c5] 58
  z5 : Blk w p5 [.slice a6 nE c6] 59
  z6 : Blk w p6 [.int .i64 ni] 3
  z7 : Blk w p7 [.int .i64 ns] 3
  z8 : Blk w p8 [.pointer (some ⟨La, 0, none⟩)] 30
  h1 : Far w (p5 + 1) w.heap.size a1 nI fun j => .int .i64 (ik j)
  h2 : Far w (p5 + 1) w.heap.size a2 nV fun j => .float .f64 (iv j)
  h3 : Far w (p5 + 1) w.heap.size a3 nD fun j => .bool (id j)
  h4 : Far w (p5 + 1) w.heap.size a4 nS fun j => .string (sk j)
  h5 : Far w (p5 + 1) w.heap.size a5 nW fun j => .float .f64 (sv j)
  h6 : Far w (p5 + 1) w.heap.size a6 nE fun j => .bool (sd j)
theorem Bs.keep {w w' : World} {p0 p1 p2 p3 p4 p5 p6 p7 p8 ni ns La nI c1 nV c2 nD c3 nS c4 nW c5 nE c6 : Nat} {a1 a2 a3 a4 a5 a6 : Option Addr} {ik : Nat → Int} {iv : Nat → Nat} {id : Nat → Bool} {sk : Nat → ByteArray} {sv : Nat → Nat} {sd : Nat → Bool} (h : Bs w p0 p1 p2 p3 p4 p5 p6 p7 p8 ni ns La nI c1 nV c2 nD c3 nS c4 nW c5 nE c6 a1 a2 a3 a4 a5 a6 ik iv id sk sv sd) (hu : Upd (fun _ => False) w w') : Bs w' p0 p1 p2 p3 p4 p5 p6 p7 p8 ni ns La nI c1 nV c2 nD c3 nS c4 nW c5 nE c6 a1 a2 a3 a4 a5 a6 ik iv id sk sv sd :=
  ⟨hu.blk h.z0 (fun h => h), hu.blk h.z1 (fun h => h), hu.blk h.z2 (fun h => h), hu.blk h.z3 (fun h => h), hu.blk h.z4 (fun h => h), hu.blk h.z5 (fun h => h), hu.blk h.z6 (fun h => h), hu.blk h.z7 (fun h => h), hu.blk h.z8 (fun h => h), (h.h1.upd hu (fun _ h => h.elim)).more hu.size, (h.h2.upd hu (fun _ h => h.elim)).more hu.size, (h.h3.upd hu (fun _ h => h.elim)).more hu.size, (h.h4.upd hu (fun _ h => h.elim)).more hu.size, (h.h5.upd hu (fun _ h => h.elim)).more hu.size, (h.h6.upd hu (fun _ h => h.elim)).more hu.size⟩

theorem Held.of_blk' {w : World} {b k : Nat} {f : Nat → Value} {t : TypeId} (h : Blk w b (tab k f) t) : Held w w.heap.size (some ⟨b, 0, none⟩) k f := fun j hj => ⟨b, 0, rfl, h.lt, h.at (by rw [Nat.zero_add]; exact tab_in hj)⟩

theorem vs_start {w w' : World} {p0 p1 p2 p3 p4 p5 p6 p7 p8 ni ns La nI c1 nV c2 nD c3 nS c4 nW c5 nE c6 : Nat} {a1 a2 a3 a4 a5 a6 : Option Addr} {ik : Nat → Int} {iv : Nat → Nat} {id : Nat → Bool} {sk : Nat → ByteArray} {sv : Nat → Nat} {sd : Nat → Bool} {p9 gl p10 gm : Nat} {li ls : Nat → Bool} (h : Bs w p0 p1 p2 p3 p4 p5 p6 p7 p8 ni ns La nI c1 nV c2 nD c3 nS c4 nW c5 nE c6 a1 a2 a3 a4 a5 a6 ik iv id sk sv sd) (h9 : Blk w p9 [.slice (some ⟨gl, 0, none⟩) ni ni] 59) (hl : Blk w gl (tab ni fun m => .bool (li m)) 4) (h10 : Blk w p10 [.slice (some ⟨gm, 0, none⟩) ns ns] 59) (hm : Blk w gm (tab ns fun m => .bool (ls m)) 4)
    (l1 : ni ≤ nI ∧ ni ≤ nV ∧ ni ≤ nD ∧ ns ≤ nS ∧ ns ≤ nW ∧ ns ≤ nE) (l2 : ni ≤ 4096 ∧ ns ≤ 4096)
    (hw : w' = ((((w.alloc (.cells (tab ni fun _ => Value.int .i64 0).toArray 3)).alloc (.cells #[.slice (some ⟨w.heap.size, 0, none⟩) ni ni] 93)).alloc (.cells (tab ns fun _ => Value.int .i64 0).toArray 3)).alloc (.cells #[.slice (some ⟨w.heap.size + 1 + 1, 0, none⟩) ns ns] 93)).alloc (.cells #[.bool false] 4)) :
    Upd (fun _ => False) w w' ∧ Vs w' w.heap.size p6 p9 p8 p0 p2 p1 (w.heap.size + 1 + 1 + 1 + 1) (w.heap.size + 1) p7 p10 p3 p5 p4 (w.heap.size + 1 + 1 + 1) ni ns La w.heap.size (w.heap.size + 1 + 1) nI c1 nV c2 nD c3 nS c4 nW c5 nE c6 ni ns a1 a2 a3 a4 a5 a6 (some ⟨gl, 0, none⟩) (some ⟨gm, 0, none⟩) ik iv id sk sv sd li ls (fun _ => 0) (fun _ => 0) := by
  have hu : Upd (fun _ => False) w w' := by rw [hw]; exact (((((Upd.refl _ _).alloc _).alloc _).alloc _).alloc _).alloc _
  have k1 : Blk w' w.heap.size (tab ni fun _ => Value.int .i64 0) 3 := by rw [hw]; exact ((((Blk.new _ _ _).alloc _).alloc _).alloc _).alloc _
  have k2 : Blk w' (w.heap.size + 1) [.slice (some ⟨w.heap.size, 0, none⟩) ni ni] 93 := by rw [hw]; exact (((Blk.new_at (by simp) _ _).alloc _).alloc _).alloc _
  have k3 : Blk w' (w.heap.size + 1 + 1) (tab ns fun _ => Value.int .i64 0) 3 := by rw [hw]; exact ((Blk.new_at (by simp) _ _).alloc _).alloc _
  have k4 : Blk w' (w.heap.size + 1 + 1 + 1) [.slice (some ⟨w.heap.size + 1 + 1, 0, none⟩) ns ns] 93 := by rw [hw]; exact (Blk.new_at (by simp) _ _).alloc _
  have k5 : Blk w' (w.heap.size + 1 + 1 + 1 + 1) [.bool false] 4 := by rw [hw]; exact Blk.new_at (by simp) _ _
  clear hw
  have s0 := h.z0.lt
  have s1 := h.z1.lt
  have s2 := h.z2.lt
  have s3 := h.z3.lt
  have s4 := h.z4.lt
  have s5 := h.z5.lt
  have s6 := h.z6.lt
  have s7 := h.z7.lt
  have s8 := h.z8.lt
  have s9 := h9.lt
  have s10 := h10.lt
  refine ⟨hu, ?_⟩
  constructor
  · exact hu.blk h.z6 (fun h => h)
  · exact hu.blk h9 (fun h => h)
  · exact hu.blk h.z8 (fun h => h)
  · exact hu.blk h.z0 (fun h => h)
  · exact hu.blk h.z2 (fun h => h)
  · exact hu.blk h.z1 (fun h => h)
  · exact k5
  · exact k2
  · exact hu.blk h.z7 (fun h => h)
  · exact hu.blk h10 (fun h => h)
  · exact hu.blk h.z3 (fun h => h)
  · exact hu.blk h.z5 (fun h => h)
  · exact hu.blk h.z4 (fun h => h)
  · exact k4
  · exact (h.h1.held.less l1.1).upd hu (fun _ h => h.elim)
  · exact (h.h2.held.less l1.2.1).upd hu (fun _ h => h.elim)
  · exact (h.h3.held.less l1.2.2.1).upd hu (fun _ h => h.elim)
  · exact (h.h4.held.less l1.2.2.2.1).upd hu (fun _ h => h.elim)
  · exact (h.h5.held.less l1.2.2.2.2.1).upd hu (fun _ h => h.elim)
  · exact (h.h6.held.less l1.2.2.2.2.2).upd hu (fun _ h => h.elim)
  · exact (Held.of_blk' hl).upd hu (fun _ h => h.elim)
  · exact (Held.of_blk' hm).upd hu (fun _ h => h.elim)
  · exact k1
  · exact k3
  · exact ⟨Nat.le_refl _, by omega⟩
  · omega
  · exact ⟨by omega, by omega, by omega, by omega, by omega, by omega, by omega, by omega, by omega, by omega, by omega, by omega, by omega, by omega, by omega, by omega, by omega, by omega, by omega, by omega, by omega, by omega, by omega, by omega, by omega, by omega, by omega, by omega⟩
  · exact l1
  · exact l2

theorem six_box (w : World) (v0 v1 v2 v3 v4 v5 : Value) {wb : World} (h : wb = ((((((w.alloc (.cells #[v0] 93)).alloc (.cells #[v1] 58)).alloc (.cells #[v2] 59)).alloc (.cells #[v3] 57)).alloc (.cells #[v4] 58)).alloc (.cells #[v5] 59))) : Blk wb (w.heap.size) [v0] 93 ∧ Blk wb (w.heap.size + 1) [v1] 58 ∧ Blk wb (w.heap.size + 1 + 1) [v2] 59 ∧ Blk wb (w.heap.size + 1 + 1 + 1) [v3] 57 ∧ Blk wb (w.heap.size + 1 + 1 + 1 + 1) [v4] 58 ∧ Blk wb (w.heap.size + 1 + 1 + 1 + 1 + 1) [v5] 59 ∧ Upd (fun _ => False) w wb := by
  subst h
  refine ⟨(((((Blk.new_at (by simp) _ _).alloc _).alloc _).alloc _).alloc _).alloc _, ((((Blk.new_at (by simp) _ _).alloc _).alloc _).alloc _).alloc _, (((Blk.new_at (by simp) _ _).alloc _).alloc _).alloc _, ((Blk.new_at (by simp) _ _).alloc _).alloc _, (Blk.new_at (by simp) _ _).alloc _, Blk.new_at (by simp) _ _, ((((((Upd.refl _ _).alloc _).alloc _).alloc _).alloc _).alloc _).alloc _⟩

/-- What zzStrBytes answers. -/
def zz (key : Nat → ByteArray) : Nat → Nat → Nat → Nat
  | 0, _, z => z
  | r + 1, m, z => if (key m).size ≤ 1048576 ∧ z + (key m).size ≤ 1048576 then zz key r (m + 1) (z + (key m).size) else 1048577
theorem zz_le (key : Nat → ByteArray) : ∀ (r m z : Nat), z ≤ 1048577 → zz key r m z ≤ 1048577
  | 0, _, z, h => h
  | r + 1, m, z, h => by
    unfold zz
    by_cases hc : (key m).size ≤ 1048576 ∧ z + (key m).size ≤ 1048576
    · rw [if_pos hc]
      exact zz_le key r (m + 1) _ (by omega)
    · rw [if_neg hc]
      exact Nat.le_refl _
theorem zz_no {key : Nat → ByteArray} {r m z : Nat} (h : ¬ ((key m).size ≤ 1048576 ∧ z + (key m).size ≤ 1048576)) : zz key (r + 1) m z = 1048577 := by
  unfold zz
  rw [if_neg h]
theorem zz_yes {key : Nat → ByteArray} {r m z : Nat} (h : (key m).size ≤ 1048576 ∧ z + (key m).size ≤ 1048576) : zz key (r + 1) m z = zz key r (m + 1) (z + (key m).size) := by
  rw [zz, if_pos h]
set_option maxHeartbeats 800000 in
theorem str_bytesZ (a : Option Addr) (K c : Nat) (key : Nat → ByteArray) (w : World) (hK : K ≤ 4096) (hc : Cells w a K fun j => .string (key j)) :
    Calls Tryz.prog 25 #[.slice a K c] w fun e w' => e = .returned (.int .i64 (zz key K 0 (16 * K))) ∧ w = w' := by
  have HC := Lib.hid hc
  clear hc
  obtain ⟨Z, hZ⟩ : ∃ Z, zz key K 0 (16 * K) = Z := ⟨_, rfl⟩
  rw [hZ]
  have HZ := Lib.hid hZ
  clear hZ
  go_enter Tryz.func25, Tryz.ntmps25
  go_wp2
  go_loop [3, 4] (fun tv iv => ∃ m z r : Nat, m + r = K ∧ z ≤ 1048576 ∧ iv = .int .i64 m ∧ tv = .int .i64 z ∧ zz key r m z = Z) (fun _ iv => K - (intOf iv).toNat)
  case atStart => exact ⟨0, 16 * K, K, by omega, by omega, rfl, by go_num, HZ.out⟩
  case round =>
    obtain ⟨m, z, r, hm, hz, rfl, rfl, he⟩ := hrel
    have HE := Lib.hid he
    clear he
    by_cases hlt : m < K
    · obtain ⟨r, rfl⟩ : ∃ r', r = r' + 1 := ⟨r - 1, by omega⟩
      obtain ⟨b, off, rfl, hcell⟩ := HC.out.one (j := m) (by omega)
      have i1 : (0 : Int) ≤ (m : Int) := by omega
      have i2 : (m : Int) < (K : Int) := by omega
      by_cases hk : (key m).size ≤ 1048576
      case neg =>
        go_wp2
        go_ret
        exact ⟨by rw [← HE.out, zz_no (by omega)]; rfl, rfl⟩
      by_cases hs : z + (key m).size ≤ 1048576
      case neg =>
        go_wp2
        go_ret
        exact ⟨by rw [← HE.out, zz_no (by omega)]; rfl, rfl⟩
      have HE2 := Lib.hid ((zz_yes ⟨hk, hs⟩).symm.trans HE.out)
      go_wp2
      go_round
      case rel => exact ⟨m + 1, z + (key m).size, r, by omega, hs, by go_num, by go_num, HE2.out⟩
      case measure => simp [intOf]; omega
    · obtain rfl : m = K := by omega
      obtain rfl : r = 0 := by omega
      go_wp2
      go_ret
      exact ⟨by rw [← HE.out]; rfl, rfl⟩

set_option maxHeartbeats 1600000 in
theorem guard_fev (aI : Option Addr) (nI cI : Nat) (aV : Option Addr) (nV cV : Nat) (aD : Option Addr) (nD cD : Nat) (aS : Option Addr) (nS cS : Nat) (aW : Option Addr) (nW cW : Nat) (aE : Option Addr) (nE cE : Nat) (sk : Nat → ByteArray) (w : World) (h0 : nI ≤ 9223372036854775807) (h1 : nV ≤ 9223372036854775807) (h2 : nD ≤ 9223372036854775807) (h3 : nS ≤ 9223372036854775807) (h4 : nW ≤ 9223372036854775807) (h5 : nE ≤ 9223372036854775807) (c3 : Cells w aS nS fun j => .string (sk j)) :
    Calls Tryz.prog 48 #[.slice aI nI cI, .slice aV nV cV, .slice aD nD cD, .slice aS nS cS, .slice aW nW cW, .slice aE nE cE] w (SomeBool w) := by
  have HS := Lib.hid c3
  clear c3
  go_enter Tryz.func48, Tryz.ntmps48
  by_cases hc0 : nI ≤ 1048576
  case neg =>
    go_wp2
    all_goals
      go_ret
      exact ⟨_, rfl, rfl⟩
  by_cases hc1 : nV ≤ 1048576
  case neg =>
    go_wp2
    all_goals
      go_ret
      exact ⟨_, rfl, rfl⟩
  by_cases hz1 : nI + nV ≤ 1048576
  case neg =>
    go_wp2
    all_goals
      go_ret
      exact ⟨_, rfl, rfl⟩
  by_cases hc2 : nD ≤ 1048576
  case neg =>
    go_wp2
    all_goals
      go_ret
      exact ⟨_, rfl, rfl⟩
  by_cases hz2 : nI + nV + nD ≤ 1048576
  case neg =>
    go_wp2
    all_goals
      go_ret
      exact ⟨_, rfl, rfl⟩
  by_cases hc3 : nS ≤ 1048576
  case neg =>
    go_wp2
    all_goals
      go_ret
      exact ⟨_, rfl, rfl⟩
  by_cases hz3 : nI + nV + nD + nS ≤ 1048576
  case neg =>
    go_wp2
    all_goals
      go_ret
      exact ⟨_, rfl, rfl⟩
  go_wp2
  go_loop [13, 14] (fun t i => ∃ (j : Nat) (z : Nat), j ≤ nS ∧ z ≤ 1048576 ∧ i = .int .i64 j ∧ t = .int .i64 z) (fun _ i => nS - (intOf i).toNat)
  case atStart => exact ⟨0, nI + nV + nD + nS, Nat.zero_le _, by omega, rfl, by go_num⟩
  case round =>
    obtain ⟨j, z3, hj, hz, rfl, rfl⟩ := hrel
    by_cases hlt : j < nS
    · obtain ⟨b, off, rfl, hc⟩ := HS.out.one hlt
      have i1 : (0 : Int) ≤ (j : Int) := by omega
      have i2 : (j : Int) < (nS : Int) := by omega
      by_cases hk : (sk j).size ≤ 1048576
      case neg =>
        go_wp2
        all_goals
          go_ret
          exact ⟨_, rfl, rfl⟩
      by_cases hs1 : z3 + (sk j).size ≤ 1048576
      case neg =>
        go_wp2
        all_goals
          go_ret
          exact ⟨_, rfl, rfl⟩
      go_wp2
      go_round
      case rel => exact ⟨j + 1, z3 + (sk j).size, by omega, by omega, by go_num, by go_num⟩
      case measure => simp [intOf]; omega
    · obtain rfl : j = nS := by omega
      by_cases hc4 : nW ≤ 1048576
      case neg =>
        go_wp2
        all_goals
          go_ret
          exact ⟨_, rfl, rfl⟩
      by_cases hz4 : z3 + nW ≤ 1048576
      case neg =>
        go_wp2
        all_goals
          go_ret
          exact ⟨_, rfl, rfl⟩
      by_cases hc5 : nE ≤ 1048576
      case neg =>
        go_wp2
        all_goals
          go_ret
          exact ⟨_, rfl, rfl⟩
      by_cases hz5 : z3 + nW + nE ≤ 1048576
      case neg =>
        go_wp2
        all_goals
          go_ret
          exact ⟨_, rfl, rfl⟩
      go_wp2
      go_ret
      exact ⟨_, rfl, rfl⟩

set_option maxHeartbeats 3200000 in
theorem fev_long (aI : Option Addr) (nI cI : Nat) (aV : Option Addr) (nV cV : Nat) (aD : Option Addr) (nD cD : Nat) (aS : Option Addr) (nS cS : Nat) (aW : Option Addr) (nW cW : Nat) (aE : Option Addr) (nE cE : Nat) (sk : Nat → ByteArray) (w : World) (mnI : nI ≤ 9223372036854775807) (mnV : nV ≤ 9223372036854775807) (mnD : nD ≤ 9223372036854775807) (mnS : nS ≤ 9223372036854775807) (mnW : nW ≤ 9223372036854775807) (mnE : nE ≤ 9223372036854775807) (hl : ¬ (nI ≤ 4096 ∧ nV ≤ 4096 ∧ nD ≤ 4096 ∧ nS ≤ 4096 ∧ nW ≤ 4096 ∧ nE ≤ 4096)) (hnS : Cells w aS nS fun j => .string (sk j)) :
    Calls Tryz.prog 9 #[.slice aI nI cI, .slice aV nV cV, .slice aD nD cD, .slice aS nS cS, .slice aW nW cW, .slice aE nE cE] w (Good w) := by
  have HS := Lib.hid hnS
  clear hnS
  go_enter Tryz.func9, Tryz.ntmps9
  obtain ⟨wb, hwb⟩ : ∃ wb, wb = ((((((w.alloc (.cells #[.slice aI nI cI] 93)).alloc (.cells #[.slice aV nV cV] 58)).alloc (.cells #[.slice aD nD cD] 59)).alloc (.cells #[.slice aS nS cS] 57)).alloc (.cells #[.slice aW nW cW] 58)).alloc (.cells #[.slice aE nE cE] 59)) := ⟨_, rfl⟩
  obtain ⟨g0, g1, g2, g3, g4, g5, gu⟩ := six_box w _ _ _ _ _ _ hwb
  have y0 := g0.at (o := 0) rfl
  have y1 := g1.at (o := 0) rfl
  have y2 := g2.at (o := 0) rfl
  have y3 := g3.at (o := 0) rfl
  have y4 := g4.at (o := 0) rfl
  have y5 := g5.at (o := 0) rfl
  rw [hwb] at y0 y1 y2 y3 y4 y5
  go_wp2_with fail
  rw [← hwb]
  obtain ⟨p5, hp5⟩ : ∃ p, w.heap.size + 1 + 1 + 1 + 1 + 1 = p := ⟨_, rfl⟩
  rw [hp5] at g5 ⊢
  obtain ⟨p4, hp4⟩ : ∃ p, w.heap.size + 1 + 1 + 1 + 1 = p := ⟨_, rfl⟩
  rw [hp4] at g4 ⊢
  obtain ⟨p3, hp3⟩ : ∃ p, w.heap.size + 1 + 1 + 1 = p := ⟨_, rfl⟩
  rw [hp3] at g3 ⊢
  obtain ⟨p2, hp2⟩ : ∃ p, w.heap.size + 1 + 1 = p := ⟨_, rfl⟩
  rw [hp2] at g2 ⊢
  obtain ⟨p1, hp1⟩ : ∃ p, w.heap.size + 1 = p := ⟨_, rfl⟩
  rw [hp1] at g1 ⊢
  obtain ⟨p0, hp0⟩ : ∃ p, w.heap.size = p := ⟨_, rfl⟩
  rw [hp0] at g0 ⊢
  have LOW := Lib.hid (show Low w p0 p1 p2 p3 p4 p5 from ⟨by omega, by omega, by omega, by omega, by omega, by omega⟩)
  have SX := Lib.hid (Six.mk g0 g1 g2 g3 g4 g5)
  have UB := Lib.hid gu
  clear hp0 hp1 hp2 hp3 hp4 hp5 g0 g1 g2 g3 g4 g5 gu hwb y0 y1 y2 y3 y4 y5
  have y0 := SX.out.z0.at (o := 0) rfl
  have y1 := SX.out.z1.at (o := 0) rfl
  have y2 := SX.out.z2.at (o := 0) rfl
  have y3 := SX.out.z3.at (o := 0) rfl
  have y4 := SX.out.z4.at (o := 0) rfl
  have y5 := SX.out.z5.at (o := 0) rfl
  refine (guard_fev aI nI cI aV nV cV aD nD cD aS nS cS aW nW cW aE nE cE sk _ mnI mnV mnD mnS mnW mnE (HS.out.upd UB.out)).mono ?_
  rintro e w' ⟨b, rfl, rfl⟩
  cases b with
  | false =>
    clear hl
    go_wp2
    all_goals
      go_ret
      exact ⟨rfl, UB.out.below (Nat.le_refl _) (fun _ h => h.elim)⟩
  | true =>
    by_cases gnI : nI ≤ 4096
    case neg =>
      clear hl
      go_wp2
      all_goals
        go_ret
        exact ⟨rfl, UB.out.below (Nat.le_refl _) (fun _ h => h.elim)⟩
    by_cases gnV : nV ≤ 4096
    case neg =>
      clear hl
      go_wp2
      all_goals
        go_ret
        exact ⟨rfl, UB.out.below (Nat.le_refl _) (fun _ h => h.elim)⟩
    by_cases gnD : nD ≤ 4096
    case neg =>
      clear hl
      go_wp2
      all_goals
        go_ret
        exact ⟨rfl, UB.out.below (Nat.le_refl _) (fun _ h => h.elim)⟩
    by_cases gnS : nS ≤ 4096
    case neg =>
      clear hl
      go_wp2
      all_goals
        go_ret
        exact ⟨rfl, UB.out.below (Nat.le_refl _) (fun _ h => h.elim)⟩
    by_cases gnW : nW ≤ 4096
    case neg =>
      clear hl
      go_wp2
      all_goals
        go_ret
        exact ⟨rfl, UB.out.below (Nat.le_refl _) (fun _ h => h.elim)⟩
    have gnE : ¬ nE ≤ 4096 := fun h => hl ⟨gnI, gnV, gnD, gnS, gnW, h⟩
    clear hl
    go_wp2
    all_goals
      go_ret
      exact ⟨rfl, UB.out.below (Nat.le_refl _) (fun _ h => h.elim)⟩
end Go.Proofs.YtlmadbgpllokfaaGreatFmt
