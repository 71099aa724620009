/- What an argument of the type []RawOp gives the walk: its length is bounded; its rows. -/
import Derived.Test.YtlmadbgpllokfaaGreatFmtFrame
import Derived.Test.YtlmadbgpllokfaaGreatFmtOpa
import Derived.Test.YtlmadbgpllokfaaGreatFmtArg2
import Derived.Test.YtlmadbgpllokfaaGreatFmtArgF
import Derived.Deep.Slices
import Derived.Deep.Fields
namespace Go.Proofs.YtlmadbgpllokfaaGreatFmt
open Go.ChangeShapes Go.WideShapes Go.ChangeAt Go.RowKit
set_option maxRecDepth 100000
theorem Tryz.cellsRop : Tryz.prog.cellsOf 28 = 5 := by kernel_rfl

theorem trod_bool1 {H : Type} {enc : TypeId × Value → H} {P : Program} {w : World} {base : Nat} {sp : Nat → Bool} {held : Bool} {fuel : Nat} {t : TypeId} {v : Value} {x : DataW H × List MemPlace}
    (ht : P.underlying t = some .bool) (h : DataW.trod enc P w base sp held fuel t [v] = some x) : ∃ b, v = .bool b := by
  cases fuel with
  | zero => simp [DataW.trod] at h
  | succ n =>
    simp only [DataW.trod, ht] at h
    cases v <;> simp_all
theorem trod_string1 {H : Type} {enc : TypeId × Value → H} {P : Program} {w : World} {base : Nat} {sp : Nat → Bool} {held : Bool} {fuel : Nat} {t : TypeId} {v : Value} {x : DataW H × List MemPlace}
    (ht : P.underlying t = some .string) (h : DataW.trod enc P w base sp held fuel t [v] = some x) : ∃ s, v = .string s := by
  cases fuel with
  | zero => simp [DataW.trod] at h
  | succ n =>
    simp only [DataW.trod, ht] at h
    cases v <;> simp_all

instance : Inhabited Rop := ⟨Rop.zero⟩

theorem ops_arg {H : Type} {enc : TypeId × Value → H} {W : World} {sp : Nat → Bool} {held : Bool} {a : Option Addr} {n c : Nat} {d : DataW H} {ps : List MemPlace}
    (h : DataW.Trod enc Tryz.prog W 0 sp held 22 (.slice a n c) d ps) :
    n ≤ 9223372036854775807 ∧ ∃ f : Nat → Rop, Rops W W.heap.size a n f := by
  obtain ⟨fuel, hf⟩ := h
  rcases Go.Deep.open_slice Tryz.underlying22 hf with ⟨hcs, hx⟩ | ⟨x, len, cap, m, n', D, Pl, hcs, _, hl, hm, hmm, hx, hcell⟩
  · simp [Value.cells] at hcs
    obtain ⟨rfl, rfl, rfl⟩ := hcs
    exact ⟨by omega, fun _ => Rop.zero, fun j h => absurd h (by omega)⟩
  · simp [Value.cells] at hcs
    obtain ⟨rfl, rfl, rfl⟩ := hcs
    have hmle : n ≤ m := by rw [hmm]; split <;> omega
    have each : ∀ i, i < n → ∃ r : Rop, ∀ j, j < 5 → W.cell? (x.add (i * 5 + j)) = r.cells[j]? := fun i hi => by
      obtain ⟨cs', hc, ht'⟩ := hcell i (by omega)
      rw [Tryz.cellsRop] at hc
      obtain ⟨ys, k, _, hy, hlen, hyl, hg⟩ := DataW.trod_struct Tryz.underlying28 ht'
      rw [Tryz.cellsRop] at hlen
      obtain ⟨_, _, hat⟩ := World.cells?_some hc
      match cs', hlen with
      | [v0, v1, v2, v3, v4], _ =>
        match ys, hyl with
        | [y0, y1, y2, y3, y4], _ =>
          have g0 : DataW.trod enc Tryz.prog W 0 sp held k 4 (List.take (Tryz.prog.cellsOf 4) (List.drop 0 [v0, v1, v2, v3, v4])) = some y0 := hg 0 _ rfl
          rw [Tryz.cellsBool] at g0
          have g1 : DataW.trod enc Tryz.prog W 0 sp held k 26 (List.take (Tryz.prog.cellsOf 26) (List.drop 1 [v0, v1, v2, v3, v4])) = some y1 := hg 1 _ rfl
          rw [Tryz.cellsFlo] at g1
          have g2 : DataW.trod enc Tryz.prog W 0 sp held k 9 (List.take (Tryz.prog.cellsOf 9) (List.drop 2 [v0, v1, v2, v3, v4])) = some y2 := hg 2 _ rfl
          rw [Tryz.cellsStr] at g2
          have g3 : DataW.trod enc Tryz.prog W 0 sp held k 9 (List.take (Tryz.prog.cellsOf 9) (List.drop 3 [v0, v1, v2, v3, v4])) = some y3 := hg 3 _ rfl
          rw [Tryz.cellsStr] at g3
          have g4 : DataW.trod enc Tryz.prog W 0 sp held k 4 (List.take (Tryz.prog.cellsOf 4) (List.drop 4 [v0, v1, v2, v3, v4])) = some y4 := hg 4 _ rfl
          rw [Tryz.cellsBool] at g4
          obtain ⟨b0, rfl⟩ := trod_bool1 Tryz.underlying4 g0
          obtain ⟨b1, rfl⟩ := trod_float1 Tryz.underlying26 g1
          obtain ⟨b2, rfl⟩ := trod_string1 Tryz.underlying9 g2
          obtain ⟨b3, rfl⟩ := trod_string1 Tryz.underlying9 g3
          obtain ⟨b4, rfl⟩ := trod_bool1 Tryz.underlying4 g4
          refine ⟨⟨b0, b1, b2, b3, b4⟩, fun j hj => ?_⟩
          have h1 := hat j hj
          rw [Go.Deep.add_add] at h1
          rw [h1]
          rfl
    obtain ⟨f, hfl⟩ := Go.Deep.choose_lt (n := n) (α := Rop) (p := fun i r => ∀ j, j < 5 → W.cell? (x.add (i * 5 + j)) = r.cells[j]?) each
    obtain ⟨b, off, spot⟩ := x
    refine ⟨?_, f, fun j hj => ?_⟩
    · unfold maxLen at hm; omega
    · have h0 := hfl j hj 0 (by omega)
      rw [show (f j).cells[0]? = some (.bool (f j).s) from rfl] at h0
      obtain rfl : spot = none := by
        have h00 := hfl 0 (by omega) 0 (by omega)
        rw [show (f 0).cells[0]? = some (.bool (f 0).s) from rfl] at h00
        have := World.cell?_spot h00
        simpa [Addr.add] using this
      refine ⟨b, off, rfl, ?_, fun i v hv => ?_⟩
      · have := World.block_lt_of_cell? W _ h0
        rw [Addr.add_mid] at this
        exact this
      · have hi : i < 5 := (List.getElem?_eq_some_iff.1 hv).1
        have h1 := hfl j hj i hi
        rw [Addr.add_mid, ← Nat.add_assoc] at h1
        rw [h1, hv]
end Go.Proofs.YtlmadbgpllokfaaGreatFmt
