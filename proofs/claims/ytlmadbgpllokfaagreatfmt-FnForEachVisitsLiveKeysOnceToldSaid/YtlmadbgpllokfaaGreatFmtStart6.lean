/- The witness of a row whose listed variables hold their data. -/
import Derived.Test.YtlmadbgpllokfaaGreatFmtStart5
import Derived.MakeChecks
namespace Go.Proofs.YtlmadbgpllokfaaGreatFmt
open Go.ChangeShapes Go.WideShapes Go.ChangeAt Go.RowKit
open Go.Extern.Stop Go.Stop Go.Extern
set_option maxRecDepth 100000
theorem start_laidH (os : Os) (args : Array Value) : laidMetH Tryz.prog Rows.fnRawGetLastWriteWinsRow.laid ((startW os).forCall (fun _ _ => 0) ⟨#[], args, []⟩).memory := by
  rw [MakeChecks.laidMetH_plain _ _ _ (by kernel_rfl)]
  exact start_laid os args

theorem witness_laid {H : Type} {enc : TypeId × Value → H} {C : Checked} {f : FuncId} {fn : Func} {s : OpenSpec} {conds : List PathCond} {apart : Bool} {l : List (String × DataW Unit)} (modest : Bool) (w0 : World) (args : Array Value) (fuel : Nat)
    (hsh : (w0.forCall (fun _ _ => 0) ⟨#[], args, []⟩).Shaped C.prog)
    (hok : Input.okWideB C.prog (w0.forCall (fun _ _ => 0) ⟨#[], args, []⟩) f ⟨#[], args, []⟩ = true)
    (hpre : s.bare.preB enc C.prog fn conds apart (w0.forCall (fun _ _ => 0) ⟨#[], args, []⟩).memory args fuel = true)
    (hsz : s.bare.sizedB enc C.prog fn apart (w0.forCall (fun _ _ => 0) ⟨#[], args, []⟩).memory args fuel = true) (hk : s.cond = none)
    (hl : laidMetH C.prog l (w0.forCall (fun _ _ => 0) ⟨#[], args, []⟩).memory) (F : Stop.Interp) :
    ∃ (w : World) (tape : Tape) (i : Input), w.os = w0.os ∧ (w.forCall tape i).Shaped C.prog ∧ i.vars = [] ∧ Input.okWide C.prog (w.forCall tape i) .any w.heap.size f i ∧
      s.preRow enc C.prog fn conds apart l (w.forCall tape i).memory i.args ∧ ({ modest := modest } : Assume).holds C.prog (lone (Frame.enter C.prog f i.args .normal) [] (w.forCall tape i)) ∧ F.answers tape :=
  ⟨w0, F.over fun _ _ => 0, ⟨#[], args, []⟩, rfl, hsh, (Input.okWide_of_okWideB (base := 0) hok).1, (Input.okWide_of_okWideB hok).2, OpenSpec.preRow_of_B hk fuel hpre hsz hl, by
    simp only [Assume.holds]
    exact ⟨by simp, by simp, fun _ => F.over_modest Modest.zero, by simp, by simp⟩, F.over_answers _⟩
end Go.Proofs.YtlmadbgpllokfaaGreatFmt
