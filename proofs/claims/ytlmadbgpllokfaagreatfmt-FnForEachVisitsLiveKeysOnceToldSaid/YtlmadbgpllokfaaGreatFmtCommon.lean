/- Closed facts of this translation that every row of the seat asks, each reckoned once by the kernel. -/
import Derived.Test.YtlmadbgpllokfaaGreatFmtFrame
namespace Go.Proofs.YtlmadbgpllokfaaGreatFmt
open Go.ChangeShapes Go.WideShapes Go.ChangeAt Go.RowKit
open Go.Extern.Stop Go.Stop Go.Extern
set_option maxRecDepth 100000
theorem Tryz.mayEnter : Tryz.checked.prog.mayEnter = true := by kernel_rfl
theorem Tryz.rowed : mapsRowed Tryz.pinned.checked.prog = true := by kernel_rfl
theorem Tryz.looked : true = Tryz.pinned.checked.prog.looks [] := by kernel_rfl
theorem Tryz.worded : Tryz.pinned.checked.prog.envWorded = true := by kernel_rfl
theorem Tryz.main_is : Tryz.pinned.checked.prog.mainIs = some (true, "51ee891b00f0457097e9e946045ecb56da478fea9e52bb7ae91fea41b52bb3f9".toList) := by kernel_rfl
end Go.Proofs.YtlmadbgpllokfaaGreatFmt
