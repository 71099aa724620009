/- What slices show, as cells. -/
import Derived.Test.YtlmadbgpllokfaaGreatFmtFacts
import Derived.Test.YtlmadbgpllokfaaGreatFmtHeapy
import Derived.WideLaws
import Derived.Laws.Cover2
import Derived.LaidEqlPtr
import Derived.Lib.Hide
import Derived.Deep.LoopGhost
namespace Go.Proofs.YtlmadbgpllokfaaGreatFmt
open Go.RowKit
set_option maxRecDepth 100000

/-- The elements that a slice shows. -/
def Cells (w : World) (a : Option Addr) (k : Nat) (f : Nat → Value) : Prop := ∀ j, j < k → ∃ x, a = some x ∧ w.cell? (x.add j) = some (f j)
theorem Cells.upd {w w' : World} {a : Option Addr} {k : Nat} {f : Nat → Value} (h : Cells w a k f) (hu : Upd (fun _ => False) w w') : Cells w' a k f := fun j hj => by
  obtain ⟨x, hx, hc⟩ := h j hj
  exact ⟨x, hx, by rw [← hc]; exact World.cell?_of_block (hu.block _ (World.block_lt_of_cell? w _ hc) (fun h => h))⟩
theorem Cells.of_blk {w : World} {a : Option Addr} {k b : Nat} {f : Nat → Value} {t : TypeId} (h : 0 < k → a = some ⟨b, 0, none⟩ ∧ Blk w b (tab k f) t) : Cells w a k f := fun j hj => by
  obtain ⟨ha, hb⟩ := h (by omega)
  exact ⟨_, ha, by rw [Addr.add_mid, Nat.zero_add]; exact hb.at (tab_in hj)⟩
/-- An element that a slice shows, with its address taken apart. -/
theorem Cells.one {w : World} {a : Option Addr} {k : Nat} {f : Nat → Value} (h : Cells w a k f) {j : Nat} (hj : j < k) : ∃ b off, a = some ⟨b, off, none⟩ ∧ w.cell? ⟨b, off + j, none⟩ = some (f j) := by
  obtain ⟨x, hx, hc⟩ := h j hj
  obtain ⟨y, hy, hc0⟩ := h 0 (by omega)
  obtain rfl : x = y := Option.some.inj (hx.symm.trans hy)
  obtain ⟨b, off, spot⟩ := x
  obtain rfl : spot = none := World.cell?_spot hc0
  exact ⟨b, off, hx, by rw [← Addr.add_mid]; exact hc⟩

/-- The elements that a slice shows, all in blocks below B. -/
def Held (w : World) (B : Nat) (a : Option Addr) (k : Nat) (f : Nat → Value) : Prop := ∀ j, j < k → ∃ b off, a = some ⟨b, off, none⟩ ∧ b < B ∧ w.cell? ⟨b, off + j, none⟩ = some (f j)
theorem Cells.held {w : World} {a : Option Addr} {k : Nat} {f : Nat → Value} (h : Cells w a k f) : Held w w.heap.size a k f := fun j hj => by
  obtain ⟨b, off, ha, hc⟩ := h.one hj
  exact ⟨b, off, ha, World.block_lt_of_cell? w _ hc, hc⟩
theorem Held.cells {w : World} {B : Nat} {a : Option Addr} {k : Nat} {f : Nat → Value} (h : Held w B a k f) : Cells w a k f := fun j hj => by
  obtain ⟨b, off, ha, _, hc⟩ := h j hj
  exact ⟨_, ha, by rw [Addr.add_mid]; exact hc⟩
theorem Held.upd {w w' : World} {B : Nat} {a : Option Addr} {k : Nat} {f : Nat → Value} {S : Nat → Prop} (h : Held w B a k f) (hu : Upd S w w') (hS : ∀ c, S c → B ≤ c) : Held w' B a k f := fun j hj => by
  obtain ⟨b, off, ha, hb, hc⟩ := h j hj
  exact ⟨b, off, ha, hb, by rw [← hc]; exact World.cell?_of_block (a := ⟨b, off + j, none⟩) (hu.block _ (World.block_lt_of_cell? w _ hc) (fun hs => by have := hS _ hs; simp at this; omega))⟩
theorem Held.mono {w : World} {B B' : Nat} {a : Option Addr} {k : Nat} {f : Nat → Value} (h : Held w B a k f) (hB : B ≤ B') : Held w B' a k f := fun j hj => by
  obtain ⟨b, off, ha, hb, hc⟩ := h j hj
  exact ⟨b, off, ha, by omega, hc⟩
theorem Held.less {w : World} {B : Nat} {a : Option Addr} {k k' : Nat} {f : Nat → Value} (h : Held w B a k f) (hk : k' ≤ k) : Held w B a k' f := fun j hj => h j (by omega)
theorem Held.of_new {w' : World} {b : Nat} {a : Option Addr} {k : Nat} {f : Nat → Value} {t : TypeId} (h : 0 < k → a = some ⟨b, 0, none⟩ ∧ Blk w' b (tab k f) t) : Held w' w'.heap.size a k f := (Cells.of_blk h).held

theorem Held.one {w : World} {B : Nat} {a : Option Addr} {k : Nat} {f : Nat → Value} (h : Held w B a k f) {j : Nat} (hj : j < k) : ∃ b off, a = some ⟨b, off, none⟩ ∧ w.cell? ⟨b, off + j, none⟩ = some (f j) := by
  obtain ⟨b, off, ha, _, hc⟩ := h j hj
  exact ⟨b, off, ha, hc⟩

/-- Some bool comes back. -/
def SomeBool (w : World) (e : Ending) (w' : World) : Prop := ∃ b, e = .returned (.bool b) ∧ w = w'
/-- Some number comes back. -/
def SomeNat (b : Nat) (w : World) (e : Ending) (w' : World) : Prop := ∃ z : Nat, z ≤ b ∧ e = .returned (.int .i64 z) ∧ w = w'

@[go_sem] theorem st_float {P : Program} (w : World) (a : Addr) (m : Mode) (k : FloatKind) (b : Nat) : (store a (.float k b) m).run P w = stored P w a (.float k b) m := run_store P w a _ m rfl
end Go.Proofs.YtlmadbgpllokfaaGreatFmt
