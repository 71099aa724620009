/- The start of the row has the shape that the form asks: each variable holds its zero value, cell by cell of its type (checked in one pass a variable). -/
import Derived.Test.YtlmadbgpllokfaaGreatFmtRows
import Derived.Stop.Joined
import Derived.WideWitness
import Derived.KernelRfl
namespace Go.Proofs.YtlmadbgpllokfaaGreatFmt

def zipOk (P : Program) : List TypeId → List Value → Bool
  | [], [] => true
  | t :: ts, v :: vs => Cell.okB P t v && zipOk P ts vs
  | _, _ => false

theorem zipOk_len {P : Program} : ∀ {ts : List TypeId} {vs : List Value}, zipOk P ts vs = true → ts.length = vs.length
  | [], [], _ => rfl
  | t :: ts, v :: vs, h => by
    simp only [zipOk, Bool.and_eq_true] at h
    simp [zipOk_len h.2]
  | [], v :: vs, h => by simp [zipOk] at h
  | t :: ts, [], h => by simp [zipOk] at h

theorem zipOk_at {P : Program} : ∀ {ts : List TypeId} {vs : List Value}, zipOk P ts vs = true → ∀ (i : Nat) (v : Value), vs[i]? = some v → ∃ u, ts[i]? = some u ∧ Cell.okB P u v = true
  | [], [], _, i, v, h => by simp at h
  | t :: ts, v0 :: vs, h, 0, v, hv => by
    simp only [zipOk, Bool.and_eq_true] at h
    simp only [List.getElem?_cons_zero, Option.some.injEq] at hv
    subst hv
    exact ⟨t, rfl, h.1⟩
  | t :: ts, v0 :: vs, h, i + 1, v, hv => by
    simp only [zipOk, Bool.and_eq_true] at h
    simpa using zipOk_at h.2 i v (by simpa using hv)
  | [], v :: vs, h, _, _, _ => by simp [zipOk] at h
  | t :: ts, [], h, _, _, _ => by simp [zipOk] at h

def rowOkL (P : Program) (t : TypeId) (cs : Array Value) : Bool :=
  match P.cellTypes P.depth t with
  | some ts => zipOk P ts cs.toList
  | none => false

theorem rowOk_of_L {P : Program} {w : World} {r : Reach} {base : Nat} {t : TypeId} {cs : Array Value} (h : rowOkL P t cs = true) : Row.ok P w r base t cs := by
  unfold rowOkL at h
  split at h
  · rename_i ts hts
    have hl := zipOk_len h
    refine ⟨ts, hts, ⟨1, by simpa using hl.symm⟩, fun i v hv => ?_⟩
    have hi : i < cs.size := (Array.getElem?_eq_some_iff.1 hv).1
    obtain ⟨u, hu, hok⟩ := zipOk_at h i v (by simpa using hv)
    exact ⟨u, by rw [Nat.mod_eq_of_lt (by rw [hl]; simpa using hi)]; exact hu, Cell.ok_of_okB hok⟩
  · cases h

def varOkAt (P : Program) (g : Nat) : Bool :=
  match (begin P (fun _ _ => 0) default).world.heap[g]? with
  | some (.cells zero t f) => decide (f = (0, 0)) && (!P.buildable t || rowOkL P t zero)
  | some (.pending zero t) => !P.buildable t || rowOkL P t zero
  | _ => true

theorem shaped_start {P : Program} (os : Os) (i : Input) (hg : P.globals.size ≤ (begin P (fun _ _ => 0) default).world.heap.size)
    (hrows : ∀ g, g < P.globals.size → varOkAt P g = true)
    (hrest : ((begin P (fun _ _ => 0) default).world.heap.toList.drop P.globals.size).all (fun o => match o with | .pending .. => false | _ => true) = true) :
    (World.plainHolding P os i).Shaped P := by
  have hh : ∀ k, k < (begin P (fun _ _ => 0) default).world.heap.size →
      (World.plainHolding P os i).heap[k]? = ((begin P (fun _ _ => 0) default).world.heap[k]?).map (fun | .pending c t => .cells c t | o => o) := by
    intro k hk
    show (Input.heap ⟨#[], i.args, []⟩ (((begin P (fun _ _ => 0) default).world.heap.toList.map (fun | .pending c t => Obj.cells c t | o => o)).toArray ++ i.blocks))[k]? = _
    rw [Input.heap_fresh rfl, Array.append_empty, Array.getElem?_append_left (by simpa using hk)]
    simp
  refine ⟨fun g zero t h1 h2 => ?_, fun k h1 h2 => ?_⟩
  · have h0 := hrows g h1
    unfold varOkAt at h0
    rw [hh g (by omega)]
    cases ho : (begin P (fun _ _ => 0) default).world.heap[g]? with
    | none => rw [ho] at h2; cases h2
    | some o =>
      rw [ho] at h0 h2
      cases o <;> simp [Obj.row?] at h2
      case pending c e =>
        obtain ⟨rfl, rfl⟩ := h2
        refine ⟨_, rfl, rfl, fun hb => ?_⟩
        simp only [hb, Bool.not_true, Bool.false_or] at h0
        exact rowOk_of_L h0
      case cells c e f =>
        obtain ⟨rfl, rfl⟩ := h2
        simp only [Bool.and_eq_true, decide_eq_true_eq] at h0
        obtain ⟨rfl, h0⟩ := h0
        refine ⟨_, rfl, rfl, fun hb => ?_⟩
        simp only [hb, Bool.not_true, Bool.false_or] at h0
        exact rowOk_of_L h0
  · rw [hh k h2]
    cases ho : (begin P (fun _ _ => 0) default).world.heap[k]? with
    | none => rfl
    | some o =>
      have hm : o ∈ (begin P (fun _ _ => 0) default).world.heap.toList.drop P.globals.size := by
        refine List.mem_iff_getElem?.2 ⟨k - P.globals.size, ?_⟩
        rw [List.getElem?_drop, Nat.add_sub_cancel' h1, Array.getElem?_toList]
        exact ho
      have := List.all_eq_true.1 hrest o hm
      cases o <;> simp_all

set_option maxRecDepth 100000
theorem varOk0 : varOkAt Tryz.prog 0 = true := by kernel_rfl
theorem varOk1 : varOkAt Tryz.prog 1 = true := by kernel_rfl
theorem varOk2 : varOkAt Tryz.prog 2 = true := by kernel_rfl
theorem varOk3 : varOkAt Tryz.prog 3 = true := by kernel_rfl
theorem varOk4 : varOkAt Tryz.prog 4 = true := by kernel_rfl
theorem varOk5 : varOkAt Tryz.prog 5 = true := by kernel_rfl
theorem varOk6 : varOkAt Tryz.prog 6 = true := by kernel_rfl
theorem varOk7 : varOkAt Tryz.prog 7 = true := by kernel_rfl
theorem varOk8 : varOkAt Tryz.prog 8 = true := by kernel_rfl
theorem varOk9 : varOkAt Tryz.prog 9 = true := by kernel_rfl
theorem varOk10 : varOkAt Tryz.prog 10 = true := by kernel_rfl
theorem varOk11 : varOkAt Tryz.prog 11 = true := by kernel_rfl
theorem varOk12 : varOkAt Tryz.prog 12 = true := by kernel_rfl
theorem varOk13 : varOkAt Tryz.prog 13 = true := by kernel_rfl
theorem varOk14 : varOkAt Tryz.prog 14 = true := by kernel_rfl
theorem varOk15 : varOkAt Tryz.prog 15 = true := by kernel_rfl
theorem varOk16 : varOkAt Tryz.prog 16 = true := by kernel_rfl
theorem varOk17 : varOkAt Tryz.prog 17 = true := by kernel_rfl
theorem varOk18 : varOkAt Tryz.prog 18 = true := by kernel_rfl
theorem varOk19 : varOkAt Tryz.prog 19 = true := by kernel_rfl
theorem varOk20 : varOkAt Tryz.prog 20 = true := by kernel_rfl
theorem varOk21 : varOkAt Tryz.prog 21 = true := by kernel_rfl
theorem globalsN : Tryz.prog.globals.size = 22 := by kernel_rfl
theorem varsOk : ∀ g, g < 22 → varOkAt Tryz.prog g = true := by
  intro g hg
  match g, hg with
  | 0, _ => exact varOk0
  | 1, _ => exact varOk1
  | 2, _ => exact varOk2
  | 3, _ => exact varOk3
  | 4, _ => exact varOk4
  | 5, _ => exact varOk5
  | 6, _ => exact varOk6
  | 7, _ => exact varOk7
  | 8, _ => exact varOk8
  | 9, _ => exact varOk9
  | 10, _ => exact varOk10
  | 11, _ => exact varOk11
  | 12, _ => exact varOk12
  | 13, _ => exact varOk13
  | 14, _ => exact varOk14
  | 15, _ => exact varOk15
  | 16, _ => exact varOk16
  | 17, _ => exact varOk17
  | 18, _ => exact varOk18
  | 19, _ => exact varOk19
  | 20, _ => exact varOk20
  | 21, _ => exact varOk21
  | g + 22, h => exact absurd h (by omega)
theorem Tryz.shaped (os : Os) (i : Input) : (World.plainHolding Tryz.prog os i).Shaped Tryz.prog :=
  shaped_start os i (of_decide_eq_true (by kernel_rfl)) (by rw [globalsN]; exact varsOk) (by kernel_rfl)

end Go.Proofs.YtlmadbgpllokfaaGreatFmt
