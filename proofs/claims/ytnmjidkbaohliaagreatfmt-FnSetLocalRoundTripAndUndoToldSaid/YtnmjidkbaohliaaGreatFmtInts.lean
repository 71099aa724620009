/- What an argument of type []int gives the walk: its length is bounded; where it has an element, its cells. -/
import Derived.Test.YtnmjidkbaohliaaGreatFmtFrame
namespace Go.Proofs.YtnmjidkbaohliaaGreatFmt
open Go.ChangeShapes Go.WideShapes Go.ChangeAt Go.RowKit
theorem Tryz.cells3 : Tryz.prog.cellsOf 3 = 1 := by kernel_rfl

theorem ints47 {H : Type} {enc : TypeId × Value → H} {W : World} {sp : Nat → Bool} {held : Bool} {a : Option Addr} {n c : Nat} {d : DataW H} {ps : List MemPlace}
    (h : DataW.Trod enc Tryz.prog W 0 sp held 47 (.slice a n c) d ps) :
    n ≤ 9223372036854775807 ∧ (0 < n → ∃ x, a = some x ∧ ∃ f : Nat → Int, ∀ j, j < n → W.cell? (x.add j) = some (.int .i64 (f j))) := by
  obtain ⟨fuel, hf⟩ := h
  rcases open_ints Tryz.underlying47 Tryz.underlying3 Tryz.cells3 hf with ⟨hcs, hx⟩ | ⟨x, len, cap, zs, hcs, _, hl, hm, hz, hx, hcell, hwz⟩
  · simp [Value.cells] at hcs
    obtain ⟨rfl, rfl, rfl⟩ := hcs
    exact ⟨by omega, fun h => by omega⟩
  · simp [Value.cells] at hcs
    obtain ⟨rfl, rfl, rfl⟩ := hcs
    refine ⟨?_, fun _ => ⟨x, rfl, fun j => zs.getD j 0, fun j hj => hcell j ?_⟩⟩
    · unfold maxLen at hm; omega
    · rw [hz]; split <;> omega
end Go.Proofs.YtnmjidkbaohliaaGreatFmt
