/- The twelve variables that the door lays, read in the start. -/
import Derived.Test.YtlmadbgpllokfaaGreatFmtStart
namespace Go.Proofs.YtlmadbgpllokfaaGreatFmt
set_option maxRecDepth 100000
def laid12 : List (String × DataW Unit) := Rows.fnRawGetLastWriteWinsRow.laid.take 12
set_option maxHeartbeats 4000000 in
theorem in_12 (os : Os) (args : Array Value) : LaidIn Tryz.prog ((startW os).forCall (fun _ _ => 0) ⟨#[], args, []⟩).memory laid12 [0, 2, 3, 4, 5, 6, 7, 8, 9, 10, 11, 12, 14, 15, 17, 18, 19, 20, 21, 22, 23, 24, 25, 26, 27, 28, 29, 30, 31] :=
  LaidIn.of_run _ 8 (by kernel_rfl) (by kernel_rfl) (by kernel_rfl) (by kernel_rfl)
end Go.Proofs.YtlmadbgpllokfaaGreatFmt
