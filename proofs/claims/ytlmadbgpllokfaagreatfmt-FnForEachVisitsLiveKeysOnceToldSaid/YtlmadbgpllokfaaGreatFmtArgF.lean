/- What an argument of the type []float64 gives the walk: its length is bounded; its cells. -/
import Derived.Test.YtlmadbgpllokfaaGreatFmtFrame
import Derived.Test.YtlmadbgpllokfaaGreatFmtCells
import Derived.Deep.Slices
import Derived.Laws.Cover2
namespace Go.Proofs.YtlmadbgpllokfaaGreatFmt
open Go.ChangeShapes Go.WideShapes Go.ChangeAt Go.RowKit
theorem Tryz.cellsFlo : Tryz.prog.cellsOf 26 = 1 := by kernel_rfl

theorem trod_float1 {H : Type} {enc : TypeId × Value → H} {P : Program} {w : World} {base : Nat} {sp : Nat → Bool} {held : Bool} {fuel : Nat} {t : TypeId} {k : FloatKind} {v : Value} {x : DataW H × List MemPlace}
    (ht : P.underlying t = some (.float k)) (h : DataW.trod enc P w base sp held fuel t [v] = some x) : ∃ b, v = .float k b := by
  cases fuel with
  | zero => simp [DataW.trod] at h
  | succ n =>
    simp only [DataW.trod, ht] at h
    cases v <;> simp_all

theorem flos_arg {H : Type} {enc : TypeId × Value → H} {W : World} {sp : Nat → Bool} {held : Bool} {a : Option Addr} {n c : Nat} {d : DataW H} {ps : List MemPlace}
    (h : DataW.Trod enc Tryz.prog W 0 sp held 58 (.slice a n c) d ps) :
    n ≤ 9223372036854775807 ∧ ∃ f : Nat → Nat, Cells W a n fun j => .float .f64 (f j) := by
  obtain ⟨fuel, hf⟩ := h
  rcases Go.Deep.open_slice1 Tryz.underlying58 Tryz.cellsFlo hf with ⟨hcs, hx⟩ | ⟨x, len, cap, m, q, V, D, Pl, hcs, _, hl, hm, hmm, hx, hcell⟩
  · simp [Value.cells] at hcs
    obtain ⟨rfl, rfl, rfl⟩ := hcs
    exact ⟨by omega, fun _ => 0, fun j h => by omega⟩
  · simp [Value.cells] at hcs
    obtain ⟨rfl, rfl, rfl⟩ := hcs
    have hmle : n ≤ m := by rw [hmm]; split <;> omega
    obtain ⟨f, hfl⟩ := Go.Deep.choose_lt (n := n) (α := Nat) (p := fun i b => V i = .float .f64 b) (fun i hi => trod_float1 Tryz.underlying26 (hcell i (by omega)).2)
    refine ⟨?_, f, fun j hj => ⟨x, rfl, ?_⟩⟩
    · unfold maxLen at hm; omega
    · rw [(hcell j (by omega)).1, hfl j hj]
end Go.Proofs.YtlmadbgpllokfaaGreatFmt
