/- What arguments of the types []string, []float64 and []int give the walk: their length is bounded; their cells. -/
import Derived.Test.YtnmjidkbaohliaaGreatFmtFrame
import Derived.Test.YtnmjidkbaohliaaGreatFmtClones
import Derived.Test.YtnmjidkbaohliaaGreatFmtInts
import Derived.SliceStrings
import Derived.Deep.Slices
import Derived.Laws.Cover2
namespace Go.Proofs.YtnmjidkbaohliaaGreatFmt
open Go.ChangeShapes Go.WideShapes Go.ChangeAt Go.RowKit
theorem Tryz.cells9 : Tryz.prog.cellsOf 9 = 1 := by kernel_rfl
theorem Tryz.cells25 : Tryz.prog.cellsOf 25 = 1 := by kernel_rfl

theorem trod_float1 {H : Type} {enc : TypeId × Value → H} {P : Program} {w : World} {base : Nat} {sp : Nat → Bool} {held : Bool} {fuel : Nat} {t : TypeId} {k : FloatKind} {v : Value} {x : DataW H × List MemPlace}
    (ht : P.underlying t = some (.float k)) (h : DataW.trod enc P w base sp held fuel t [v] = some x) : ∃ b, v = .float k b := by
  cases fuel with
  | zero => simp [DataW.trod] at h
  | succ n =>
    simp only [DataW.trod, ht] at h
    cases v <;> simp_all

theorem strs28 {H : Type} {enc : TypeId × Value → H} {W : World} {sp : Nat → Bool} {held : Bool} {a : Option Addr} {n c : Nat} {d : DataW H} {ps : List MemPlace}
    (h : DataW.Trod enc Tryz.prog W 0 sp held 28 (.slice a n c) d ps) :
    n ≤ 9223372036854775807 ∧ ∃ f : Nat → ByteArray, Cells W a n fun j => .string (f j) := by
  obtain ⟨fuel, hf⟩ := h
  rcases open_strings Tryz.underlying28 Tryz.underlying9 Tryz.cells9 hf with ⟨hcs, hx⟩ | ⟨x, len, cap, ss, hcs, _, hl, hm, hz, hx, hcell, _⟩
  · simp [Value.cells] at hcs
    obtain ⟨rfl, rfl, rfl⟩ := hcs
    exact ⟨by omega, fun _ => ByteArray.empty, fun j h => by omega⟩
  · simp [Value.cells] at hcs
    obtain ⟨rfl, rfl, rfl⟩ := hcs
    refine ⟨?_, fun j => ss.getD j ByteArray.empty, fun j hj => ⟨x, rfl, hcell j ?_⟩⟩
    · unfold maxLen at hm; omega
    · rw [hz]; split <;> omega

theorem flos29 {H : Type} {enc : TypeId × Value → H} {W : World} {sp : Nat → Bool} {held : Bool} {a : Option Addr} {n c : Nat} {d : DataW H} {ps : List MemPlace}
    (h : DataW.Trod enc Tryz.prog W 0 sp held 29 (.slice a n c) d ps) :
    n ≤ 9223372036854775807 ∧ ∃ f : Nat → Nat, Cells W a n fun j => .float .f64 (f j) := by
  obtain ⟨fuel, hf⟩ := h
  rcases Go.Deep.open_slice1 Tryz.underlying29 Tryz.cells25 hf with ⟨hcs, hx⟩ | ⟨x, len, cap, m, q, V, D, Pl, hcs, _, hl, hm, hmm, hx, hcell⟩
  · simp [Value.cells] at hcs
    obtain ⟨rfl, rfl, rfl⟩ := hcs
    exact ⟨by omega, fun _ => 0, fun j h => by omega⟩
  · simp [Value.cells] at hcs
    obtain ⟨rfl, rfl, rfl⟩ := hcs
    have hmle : n ≤ m := by rw [hmm]; split <;> omega
    obtain ⟨f, hfl⟩ := Go.Deep.choose_lt (n := n) (α := Nat) (p := fun i b => V i = .float .f64 b) (fun i hi => trod_float1 Tryz.underlying25 (hcell i (by omega)).2)
    refine ⟨?_, f, fun j hj => ⟨x, rfl, ?_⟩⟩
    · unfold maxLen at hm; omega
    · rw [(hcell j (by omega)).1, hfl j hj]

theorem ints47c {H : Type} {enc : TypeId × Value → H} {W : World} {sp : Nat → Bool} {held : Bool} {a : Option Addr} {n c : Nat} {d : DataW H} {ps : List MemPlace}
    (h : DataW.Trod enc Tryz.prog W 0 sp held 47 (.slice a n c) d ps) :
    n ≤ 9223372036854775807 ∧ ∃ f : Nat → Int, Cells W a n fun j => .int .i64 (f j) := by
  obtain ⟨h1, h2⟩ := ints47 h
  refine ⟨h1, ?_⟩
  by_cases h0 : 0 < n
  · obtain ⟨x, rfl, f, hf⟩ := h2 h0
    exact ⟨f, fun j hj => ⟨x, rfl, hf j hj⟩⟩
  · exact ⟨fun _ => 0, fun j hj => by omega⟩

theorem wf_i64 {n : Int} (h : (Lit.int .i64 n).wf = true) : -9223372036854775808 ≤ n ∧ n ≤ 9223372036854775807 := by
  have e1 : IntKind.i64.min = -9223372036854775808 := by decide
  have e2 : IntKind.i64.max = 9223372036854775807 := by decide
  simp only [Lit.wf, Bool.and_eq_true, decide_eq_true_eq] at h
  omega
end Go.Proofs.YtnmjidkbaohliaaGreatFmt
