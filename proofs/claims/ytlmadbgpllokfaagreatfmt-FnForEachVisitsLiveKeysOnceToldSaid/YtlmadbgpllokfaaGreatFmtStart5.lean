/- The start meets the rows' condition; the witness of a row over the fifteen variables. -/
import Derived.Test.YtlmadbgpllokfaaGreatFmtStart2
import Derived.Test.YtlmadbgpllokfaaGreatFmtStart3
import Derived.Test.YtlmadbgpllokfaaGreatFmtFrame
import Derived.LaidHandle
namespace Go.Proofs.YtlmadbgpllokfaaGreatFmt
open Go.ChangeShapes Go.WideShapes Go.ChangeAt Go.RowKit
open Go.Extern.Stop Go.Stop Go.Extern
set_option maxRecDepth 100000
theorem start_laid (os : Os) (args : Array Value) : laidMet Tryz.prog Rows.fnRawGetLastWriteWinsRow.laid ((startW os).forCall (fun _ _ => 0) ⟨#[], args, []⟩).memory :=
  (((((in_12 os args).append (in_cheats os args) (by kernel_rfl)).append (in_pow os args) (by kernel_rfl)).append (in_first os args) (by kernel_rfl)).met :)
end Go.Proofs.YtlmadbgpllokfaaGreatFmt
