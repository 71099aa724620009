/- What arguments of the types []byte and []string give the walk: their length is bounded; their cells. -/
import Derived.Test.YtejhfhcndpehiaaGreatFmtFrame
import Derived.Test.YtejhfhcndpehiaaGreatFmtClones
import Derived.SliceStrings
namespace Go.Proofs.YtejhfhcndpehiaaGreatFmt
open Go.ChangeShapes Go.WideShapes Go.ChangeAt Go.RowKit
theorem Tryz.cellsU8 : Tryz.prog.cellsOf 5 = 1 := by kernel_rfl
theorem Tryz.cellsStr : Tryz.prog.cellsOf 9 = 1 := by kernel_rfl

theorem bytes_arg {H : Type} {enc : TypeId × Value → H} {W : World} {sp : Nat → Bool} {held : Bool} {a : Option Addr} {n c : Nat} {d : DataW H} {ps : List MemPlace}
    (h : DataW.Trod enc Tryz.prog W 0 sp held 22 (.slice a n c) d ps) :
    n ≤ 9223372036854775807 ∧ ∃ f : Nat → Int, (∀ j, j < n → 0 ≤ f j ∧ f j ≤ 255) ∧ Cells W a n fun j => .int .u8 (f j) := by
  obtain ⟨fuel, hf⟩ := h
  rcases open_ints Tryz.underlying22 Tryz.underlying5 Tryz.cellsU8 hf with ⟨hcs, hx⟩ | ⟨x, len, cap, zs, hcs, _, hl, hm, hz, hx, hcell, hwz⟩
  · simp [Value.cells] at hcs
    obtain ⟨rfl, rfl, rfl⟩ := hcs
    exact ⟨by omega, fun _ => 0, fun j h => by omega, fun j h => by omega⟩
  · simp [Value.cells] at hcs
    obtain ⟨rfl, rfl, rfl⟩ := hcs
    have hle : n ≤ zs.length := by rw [hz]; split <;> omega
    refine ⟨?_, fun j => zs.getD j 0, fun j hj => ?_, fun j hj => ⟨x, rfl, hcell j (by omega)⟩⟩
    · unfold maxLen at hm; omega
    · have hw := hwz (zs.getD j 0) (by rw [List.getD_eq_getElem?_getD, List.getElem?_eq_getElem (by omega)]; exact List.getElem_mem _)
      have e1 : IntKind.u8.min = 0 := by decide
      have e2 : IntKind.u8.max = 255 := by decide
      simp only [Lit.wf, Bool.and_eq_true, decide_eq_true_eq] at hw
      dsimp only
      omega

theorem strs_arg {H : Type} {enc : TypeId × Value → H} {W : World} {sp : Nat → Bool} {held : Bool} {a : Option Addr} {n c : Nat} {d : DataW H} {ps : List MemPlace}
    (h : DataW.Trod enc Tryz.prog W 0 sp held 68 (.slice a n c) d ps) :
    n ≤ 9223372036854775807 ∧ ∃ f : Nat → ByteArray, Cells W a n fun j => .string (f j) := by
  obtain ⟨fuel, hf⟩ := h
  rcases open_strings Tryz.underlying68 Tryz.underlying9 Tryz.cellsStr hf with ⟨hcs, hx⟩ | ⟨x, len, cap, ss, hcs, _, hl, hm, hz, hx, hcell, _⟩
  · simp [Value.cells] at hcs
    obtain ⟨rfl, rfl, rfl⟩ := hcs
    exact ⟨by omega, fun _ => ByteArray.empty, fun j h => by omega⟩
  · simp [Value.cells] at hcs
    obtain ⟨rfl, rfl, rfl⟩ := hcs
    refine ⟨?_, fun j => ss.getD j ByteArray.empty, fun j hj => ⟨x, rfl, hcell j ?_⟩⟩
    · unfold maxLen at hm; omega
    · rw [hz]; split <;> omega

theorem wf_i64 {n : Int} (h : (Lit.int .i64 n).wf = true) : -9223372036854775808 ≤ n ∧ n ≤ 9223372036854775807 := by
  have e1 : IntKind.i64.min = -9223372036854775808 := by decide
  have e2 : IntKind.i64.max = 9223372036854775807 := by decide
  simp only [Lit.wf, Bool.and_eq_true, decide_eq_true_eq] at h
  omega
end Go.Proofs.YtejhfhcndpehiaaGreatFmt
