/- Closed facts of this translation that every row of the seat asks, each reckoned once by the kernel. -/
import Derived.Test.YtkoiadebacdklaaGreatFmtFrame
namespace Go.Proofs.YtkoiadebacdklaaGreatFmt
open Go.ChangeShapes Go.WideShapes Go.ChangeAt Go.RowKit
open Go.Extern.Stop Go.Stop Go.Extern
set_option maxRecDepth 100000
theorem Tryz.mayEnter : Tryz.checked.prog.mayEnter = true := by kernel_rfl
theorem Tryz.rowed : mapsRowed Tryz.pinned.checked.prog = true := by kernel_rfl
theorem Tryz.looked : true = Tryz.pinned.checked.prog.looks [] := by kernel_rfl
theorem Tryz.worded : Tryz.pinned.checked.prog.envWorded = true := by kernel_rfl
theorem Tryz.main_is : Tryz.pinned.checked.prog.mainIs = some (true, "0aff72ce29e18e0af0345abb9aa60270cb3cb8caa09e7b82a987b51cfadcdae4".toList) := by kernel_rfl
end Go.Proofs.YtkoiadebacdklaaGreatFmt
