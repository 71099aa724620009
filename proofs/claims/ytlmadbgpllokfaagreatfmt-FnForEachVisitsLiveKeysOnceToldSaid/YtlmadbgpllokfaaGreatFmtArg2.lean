/- What arguments of the types []string, []int and []bool give the walk: their length is bounded; their cells. -/
import Derived.Test.YtlmadbgpllokfaaGreatFmtFrame
import Derived.Test.YtlmadbgpllokfaaGreatFmtCells
import Derived.SliceStrings
import Derived.Deep.Grids
namespace Go.Proofs.YtlmadbgpllokfaaGreatFmt
open Go.ChangeShapes Go.WideShapes Go.ChangeAt Go.RowKit
theorem Tryz.cellsInt : Tryz.prog.cellsOf 3 = 1 := by kernel_rfl
theorem Tryz.cellsStr : Tryz.prog.cellsOf 9 = 1 := by kernel_rfl
theorem Tryz.cellsBool : Tryz.prog.cellsOf 4 = 1 := by kernel_rfl

theorem wf_i64 {n : Int} (h : (Lit.int .i64 n).wf = true) : -9223372036854775808 ≤ n ∧ n ≤ 9223372036854775807 := by
  have e1 : IntKind.i64.min = -9223372036854775808 := by decide
  have e2 : IntKind.i64.max = 9223372036854775807 := by decide
  simp only [Lit.wf, Bool.and_eq_true, decide_eq_true_eq] at h
  omega

theorem ints_arg {H : Type} {enc : TypeId × Value → H} {W : World} {sp : Nat → Bool} {held : Bool} {a : Option Addr} {n c : Nat} {d : DataW H} {ps : List MemPlace}
    (h : DataW.Trod enc Tryz.prog W 0 sp held 93 (.slice a n c) d ps) :
    n ≤ 9223372036854775807 ∧ ∃ f : Nat → Int, (∀ j, j < n → -9223372036854775808 ≤ f j ∧ f j ≤ 9223372036854775807) ∧ Cells W a n fun j => .int .i64 (f j) := by
  obtain ⟨fuel, hf⟩ := h
  rcases open_ints Tryz.underlying93 Tryz.underlying3 Tryz.cellsInt hf with ⟨hcs, hx⟩ | ⟨x, len, cap, zs, hcs, _, hl, hm, hz, hx, hcell, hwz⟩
  · simp [Value.cells] at hcs
    obtain ⟨rfl, rfl, rfl⟩ := hcs
    exact ⟨by omega, fun _ => 0, fun j h => by omega, fun j h => by omega⟩
  · simp [Value.cells] at hcs
    obtain ⟨rfl, rfl, rfl⟩ := hcs
    have hle : n ≤ zs.length := by rw [hz]; split <;> omega
    refine ⟨?_, fun j => zs.getD j 0, fun j hj => ?_, fun j hj => ⟨x, rfl, hcell j (by omega)⟩⟩
    · unfold maxLen at hm; omega
    · exact wf_i64 (hwz (zs.getD j 0) (by rw [List.getD_eq_getElem?_getD, List.getElem?_eq_getElem (by omega)]; exact List.getElem_mem _))

theorem strs_arg {H : Type} {enc : TypeId × Value → H} {W : World} {sp : Nat → Bool} {held : Bool} {a : Option Addr} {n c : Nat} {d : DataW H} {ps : List MemPlace}
    (h : DataW.Trod enc Tryz.prog W 0 sp held 57 (.slice a n c) d ps) :
    n ≤ 9223372036854775807 ∧ ∃ f : Nat → ByteArray, Cells W a n fun j => .string (f j) := by
  obtain ⟨fuel, hf⟩ := h
  rcases open_strings Tryz.underlying57 Tryz.underlying9 Tryz.cellsStr hf with ⟨hcs, hx⟩ | ⟨x, len, cap, ss, hcs, _, hl, hm, hz, hx, hcell, _⟩
  · simp [Value.cells] at hcs
    obtain ⟨rfl, rfl, rfl⟩ := hcs
    exact ⟨by omega, fun _ => ByteArray.empty, fun j h => by omega⟩
  · simp [Value.cells] at hcs
    obtain ⟨rfl, rfl, rfl⟩ := hcs
    refine ⟨?_, fun j => ss.getD j ByteArray.empty, fun j hj => ⟨x, rfl, hcell j ?_⟩⟩
    · unfold maxLen at hm; omega
    · rw [hz]; split <;> omega

theorem bools_arg {H : Type} {enc : TypeId × Value → H} {W : World} {held : Bool} {a : Option Addr} {n c : Nat} {d : DataW H} {ps : List MemPlace}
    (h : DataW.Trod enc Tryz.prog W 0 (fun _ => true) held 59 (.slice a n c) d ps) :
    n ≤ 9223372036854775807 ∧ ∃ f : Nat → Bool, Cells W a n fun j => .bool (f j) := by
  obtain ⟨fuel, hf⟩ := h
  rcases Go.Deep.open_bools Tryz.underlying59 Tryz.underlying4 Tryz.cellsBool hf with ⟨hcs, hx⟩ | ⟨x, len, cap, g, hcs, _, hl, hm, hx, hcell⟩
  · simp [Value.cells] at hcs
    obtain ⟨rfl, rfl, rfl⟩ := hcs
    exact ⟨by omega, fun _ => false, fun j h => by omega⟩
  · simp [Value.cells] at hcs
    obtain ⟨rfl, rfl, rfl⟩ := hcs
    refine ⟨?_, g, fun j hj => ⟨x, rfl, hcell j (by omega)⟩⟩
    unfold maxLen at hm; omega
end Go.Proofs.YtlmadbgpllokfaaGreatFmt
