/- The start has the shape that the form asks. -/
import Derived.Test.YtlmadbgpllokfaaGreatFmtStart
namespace Go.Proofs.YtlmadbgpllokfaaGreatFmt
set_option maxRecDepth 100000
def varLaidAt (P : Program) (w : World) (g : Nat) : Bool :=
  match ((begin P (fun _ _ => 0) default).world.heap[g]?).bind Obj.row? with
  | none => true
  | some (zero, t) =>
    match w.heap[g]? with
    | some (.cells cs t' frozen) => decide (t' = t) && decide (frozen = (0, 0)) && cs.size == zero.size && (!P.buildable t || (rowOkL P t cs || Row.okRefB P w t cs))
    | _ => false

theorem shaped_laid {P : Program} {w : World} (hv : ∀ g, g < P.globals.size → varLaidAt P w g = true)
    (hr : (w.heap.toList.drop P.globals.size).take ((begin P (fun _ _ => 0) default).world.heap.size - P.globals.size) =
      (begin P (fun _ _ => 0) default).world.heap.toList.drop P.globals.size) : w.Shaped P := by
  refine ⟨fun g zero t hg hz => ?_, fun k h1 h2 => ?_⟩
  case refine_2 =>
    have := congrArg (·[k - P.globals.size]?) hr
    simp only [List.getElem?_take, List.getElem?_drop, Array.getElem?_toList] at this
    rw [if_pos (by omega), Nat.add_sub_cancel' h1] at this
    exact this
  have := hv g hg
  unfold varLaidAt at this
  rw [hz] at this
  simp only at this
  split at this
  · rename_i cs t' fr hw
    simp only [Bool.and_eq_true, decide_eq_true_eq, beq_iff_eq, Bool.or_eq_true, Bool.not_eq_true'] at this
    obtain ⟨⟨⟨rfl, rfl⟩, hs⟩, hb⟩ := this
    refine ⟨cs, hw, hs, fun hbuild => ?_⟩
    rcases hb with hb | hb | hb
    · rw [hbuild] at hb; cases hb
    · exact rowOk_of_L hb
    · exact Row.ok_of_okRefB hb
  · cases this
theorem varLaid0 (os : Os) (args : Array Value) : varLaidAt Tryz.prog ((startW os).forCall (fun _ _ => 0) ⟨#[], args, []⟩) 0 = true := by kernel_rfl
theorem varLaid1 (os : Os) (args : Array Value) : varLaidAt Tryz.prog ((startW os).forCall (fun _ _ => 0) ⟨#[], args, []⟩) 1 = true := by kernel_rfl
theorem varLaid2 (os : Os) (args : Array Value) : varLaidAt Tryz.prog ((startW os).forCall (fun _ _ => 0) ⟨#[], args, []⟩) 2 = true := by kernel_rfl
theorem varLaid3 (os : Os) (args : Array Value) : varLaidAt Tryz.prog ((startW os).forCall (fun _ _ => 0) ⟨#[], args, []⟩) 3 = true := by kernel_rfl
theorem varLaid4 (os : Os) (args : Array Value) : varLaidAt Tryz.prog ((startW os).forCall (fun _ _ => 0) ⟨#[], args, []⟩) 4 = true := by kernel_rfl
theorem varLaid5 (os : Os) (args : Array Value) : varLaidAt Tryz.prog ((startW os).forCall (fun _ _ => 0) ⟨#[], args, []⟩) 5 = true := by kernel_rfl
theorem varLaid6 (os : Os) (args : Array Value) : varLaidAt Tryz.prog ((startW os).forCall (fun _ _ => 0) ⟨#[], args, []⟩) 6 = true := by kernel_rfl
theorem varLaid7 (os : Os) (args : Array Value) : varLaidAt Tryz.prog ((startW os).forCall (fun _ _ => 0) ⟨#[], args, []⟩) 7 = true := by kernel_rfl
theorem varLaid8 (os : Os) (args : Array Value) : varLaidAt Tryz.prog ((startW os).forCall (fun _ _ => 0) ⟨#[], args, []⟩) 8 = true := by kernel_rfl
theorem varLaid9 (os : Os) (args : Array Value) : varLaidAt Tryz.prog ((startW os).forCall (fun _ _ => 0) ⟨#[], args, []⟩) 9 = true := by kernel_rfl
theorem varLaid10 (os : Os) (args : Array Value) : varLaidAt Tryz.prog ((startW os).forCall (fun _ _ => 0) ⟨#[], args, []⟩) 10 = true := by kernel_rfl
theorem varLaid11 (os : Os) (args : Array Value) : varLaidAt Tryz.prog ((startW os).forCall (fun _ _ => 0) ⟨#[], args, []⟩) 11 = true := by kernel_rfl
theorem varLaid12 (os : Os) (args : Array Value) : varLaidAt Tryz.prog ((startW os).forCall (fun _ _ => 0) ⟨#[], args, []⟩) 12 = true := by kernel_rfl
theorem varLaid13 (os : Os) (args : Array Value) : varLaidAt Tryz.prog ((startW os).forCall (fun _ _ => 0) ⟨#[], args, []⟩) 13 = true := by kernel_rfl
theorem varLaid14 (os : Os) (args : Array Value) : varLaidAt Tryz.prog ((startW os).forCall (fun _ _ => 0) ⟨#[], args, []⟩) 14 = true := by kernel_rfl
theorem varLaid15 (os : Os) (args : Array Value) : varLaidAt Tryz.prog ((startW os).forCall (fun _ _ => 0) ⟨#[], args, []⟩) 15 = true := by kernel_rfl
theorem varLaid16 (os : Os) (args : Array Value) : varLaidAt Tryz.prog ((startW os).forCall (fun _ _ => 0) ⟨#[], args, []⟩) 16 = true := by kernel_rfl
theorem varLaid17 (os : Os) (args : Array Value) : varLaidAt Tryz.prog ((startW os).forCall (fun _ _ => 0) ⟨#[], args, []⟩) 17 = true := by kernel_rfl
theorem varLaid18 (os : Os) (args : Array Value) : varLaidAt Tryz.prog ((startW os).forCall (fun _ _ => 0) ⟨#[], args, []⟩) 18 = true := by kernel_rfl
theorem varLaid19 (os : Os) (args : Array Value) : varLaidAt Tryz.prog ((startW os).forCall (fun _ _ => 0) ⟨#[], args, []⟩) 19 = true := by kernel_rfl
theorem varLaid20 (os : Os) (args : Array Value) : varLaidAt Tryz.prog ((startW os).forCall (fun _ _ => 0) ⟨#[], args, []⟩) 20 = true := by kernel_rfl
theorem varLaid21 (os : Os) (args : Array Value) : varLaidAt Tryz.prog ((startW os).forCall (fun _ _ => 0) ⟨#[], args, []⟩) 21 = true := by kernel_rfl
theorem varsLaid (os : Os) (args : Array Value) : ∀ g, g < 22 → varLaidAt Tryz.prog ((startW os).forCall (fun _ _ => 0) ⟨#[], args, []⟩) g = true := by
  intro g hg
  match g, hg with
  | 0, _ => exact varLaid0 os args
  | 1, _ => exact varLaid1 os args
  | 2, _ => exact varLaid2 os args
  | 3, _ => exact varLaid3 os args
  | 4, _ => exact varLaid4 os args
  | 5, _ => exact varLaid5 os args
  | 6, _ => exact varLaid6 os args
  | 7, _ => exact varLaid7 os args
  | 8, _ => exact varLaid8 os args
  | 9, _ => exact varLaid9 os args
  | 10, _ => exact varLaid10 os args
  | 11, _ => exact varLaid11 os args
  | 12, _ => exact varLaid12 os args
  | 13, _ => exact varLaid13 os args
  | 14, _ => exact varLaid14 os args
  | 15, _ => exact varLaid15 os args
  | 16, _ => exact varLaid16 os args
  | 17, _ => exact varLaid17 os args
  | 18, _ => exact varLaid18 os args
  | 19, _ => exact varLaid19 os args
  | 20, _ => exact varLaid20 os args
  | 21, _ => exact varLaid21 os args
  | g + 22, h => exact absurd h (by omega)
theorem start_shaped (os : Os) (args : Array Value) : ((startW os).forCall (fun _ _ => 0) ⟨#[], args, []⟩).Shaped Tryz.prog :=
  shaped_laid (by rw [globalsN]; exact varsLaid os args) (by kernel_rfl)
end Go.Proofs.YtlmadbgpllokfaaGreatFmt
