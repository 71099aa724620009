/- Closed facts of this translation that every row of the seat asks, each reckoned once by the kernel. -/
import Derived.Test.YtceejkkkicanmaaGreatFmtFrame
namespace Go.Proofs.YtceejkkkicanmaaGreatFmt
open Go.ChangeShapes Go.WideShapes Go.ChangeAt Go.RowKit
open Go.Extern.Stop Go.Stop Go.Extern
set_option maxRecDepth 100000
theorem Tryz.mayEnter : Tryz.checked.prog.mayEnter = true := by kernel_rfl
theorem Tryz.rowed : mapsRowed Tryz.pinned.checked.prog = true := by kernel_rfl
theorem Tryz.looked : true = Tryz.pinned.checked.prog.looks [] := by kernel_rfl
theorem Tryz.worded : Tryz.pinned.checked.prog.envWorded = true := by kernel_rfl
theorem Tryz.main_is : Tryz.pinned.checked.prog.mainIs = some (true, "6aa368addb2665199441615d72a2f6ffda6b933794d2757f978767a52ae926fb".toList) := by kernel_rfl
end Go.Proofs.YtceejkkkicanmaaGreatFmt
