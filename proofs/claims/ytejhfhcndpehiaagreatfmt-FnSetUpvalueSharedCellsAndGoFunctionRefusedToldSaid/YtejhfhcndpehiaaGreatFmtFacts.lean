/- Closed facts of this translation: which value becomes an interface value, what each type assertion says. -/
import Derived.Test.YtejhfhcndpehiaaGreatFmtRows
import Derived.WalkKit
import Derived.WalkSpells
import Derived.WalkLawsBesides
import Derived.Laws.EntriesVeiled
import Derived.Laws.Build
import Derived.Stop.Asserts
namespace Go.Proofs.YtejhfhcndpehiaaGreatFmt
open Go.RowKit

/-- The law answered true; below what was there nothing has changed. -/
def Good (w : World) (e : Ending) (w' : World) : Prop := e = .returned (.bool true) ∧ Below w.heap.size w w'

@[go_sem] theorem mkSTR (x : Value) (w : World) : (Instr.makeInterface 74 x).run Tryz.prog w = .ok (.iface 74 x) w := run_makeInterface w 74 x (by kernel_rfl)
@[go_sem] theorem mkNUM (x : Value) (w : World) : (Instr.makeInterface 95 x).run Tryz.prog w = .ok (.iface 95 x) w := run_makeInterface w 95 x (by kernel_rfl)
@[go_sem] theorem mkNIL (x : Value) (w : World) : (Instr.makeInterface 112 x).run Tryz.prog w = .ok (.iface 112 x) w := run_makeInterface w 112 x (by kernel_rfl)
@[go_sem] theorem mkTAB (x : Value) (w : World) : (Instr.makeInterface 34 x).run Tryz.prog w = .ok (.iface 34 x) w := run_makeInterface w 34 x (by kernel_rfl)
@[go_sem] theorem mkFN (x : Value) (w : World) : (Instr.makeInterface 36 x).run Tryz.prog w = .ok (.iface 36 x) w := run_makeInterface w 36 x (by kernel_rfl)
@[go_sem] theorem mkUD (x : Value) (w : World) : (Instr.makeInterface 38 x).run Tryz.prog w = .ok (.iface 38 x) w := run_makeInterface w 38 x (by kernel_rfl)
@[go_sem] theorem mkTH (x : Value) (w : World) : (Instr.makeInterface 25 x).run Tryz.prog w = .ok (.iface 25 x) w := run_makeInterface w 25 x (by kernel_rfl)

@[go_sem] theorem asSTR_TAB (v : Value) (w : World) : (Instr.typeAssert (.iface 74 v) 44 34 true).run Tryz.prog w = .ok (.tuple #[.pointer none, .bool false]) w := by kernel_rfl
@[go_sem] theorem asSTR_FN (v : Value) (w : World) : (Instr.typeAssert (.iface 74 v) 44 36 true).run Tryz.prog w = .ok (.tuple #[.pointer none, .bool false]) w := by kernel_rfl
@[go_sem] theorem asSTR_UD (v : Value) (w : World) : (Instr.typeAssert (.iface 74 v) 44 38 true).run Tryz.prog w = .ok (.tuple #[.pointer none, .bool false]) w := by kernel_rfl
@[go_sem] theorem asSTR_TH (v : Value) (w : World) : (Instr.typeAssert (.iface 74 v) 44 25 true).run Tryz.prog w = .ok (.tuple #[.pointer none, .bool false]) w := by kernel_rfl
@[go_sem] theorem asSTR_NUM (v : Value) (w : World) : (Instr.typeAssert (.iface 74 v) 44 95 true).run Tryz.prog w = .ok (.tuple #[.float .f64 0, .bool false]) w := by kernel_rfl
@[go_sem] theorem asSTR_STR (v : Value) (w : World) : (Instr.typeAssert (.iface 74 v) 44 74 true).run Tryz.prog w = .ok (.tuple #[v, .bool true]) w := by kernel_rfl
@[go_sem] theorem asNUM_TAB (v : Value) (w : World) : (Instr.typeAssert (.iface 95 v) 44 34 true).run Tryz.prog w = .ok (.tuple #[.pointer none, .bool false]) w := by kernel_rfl
@[go_sem] theorem asNUM_FN (v : Value) (w : World) : (Instr.typeAssert (.iface 95 v) 44 36 true).run Tryz.prog w = .ok (.tuple #[.pointer none, .bool false]) w := by kernel_rfl
@[go_sem] theorem asNUM_UD (v : Value) (w : World) : (Instr.typeAssert (.iface 95 v) 44 38 true).run Tryz.prog w = .ok (.tuple #[.pointer none, .bool false]) w := by kernel_rfl
@[go_sem] theorem asNUM_TH (v : Value) (w : World) : (Instr.typeAssert (.iface 95 v) 44 25 true).run Tryz.prog w = .ok (.tuple #[.pointer none, .bool false]) w := by kernel_rfl
@[go_sem] theorem asNUM_NUM (v : Value) (w : World) : (Instr.typeAssert (.iface 95 v) 44 95 true).run Tryz.prog w = .ok (.tuple #[v, .bool true]) w := by kernel_rfl
@[go_sem] theorem asNUM_STR (v : Value) (w : World) : (Instr.typeAssert (.iface 95 v) 44 74 true).run Tryz.prog w = .ok (.tuple #[.string ByteArray.empty, .bool false]) w := by kernel_rfl
@[go_sem] theorem asNIL_TAB (v : Value) (w : World) : (Instr.typeAssert (.iface 112 v) 44 34 true).run Tryz.prog w = .ok (.tuple #[.pointer none, .bool false]) w := by kernel_rfl
@[go_sem] theorem asNIL_FN (v : Value) (w : World) : (Instr.typeAssert (.iface 112 v) 44 36 true).run Tryz.prog w = .ok (.tuple #[.pointer none, .bool false]) w := by kernel_rfl
@[go_sem] theorem asNIL_UD (v : Value) (w : World) : (Instr.typeAssert (.iface 112 v) 44 38 true).run Tryz.prog w = .ok (.tuple #[.pointer none, .bool false]) w := by kernel_rfl
@[go_sem] theorem asNIL_TH (v : Value) (w : World) : (Instr.typeAssert (.iface 112 v) 44 25 true).run Tryz.prog w = .ok (.tuple #[.pointer none, .bool false]) w := by kernel_rfl
@[go_sem] theorem asNIL_NUM (v : Value) (w : World) : (Instr.typeAssert (.iface 112 v) 44 95 true).run Tryz.prog w = .ok (.tuple #[.float .f64 0, .bool false]) w := by kernel_rfl
@[go_sem] theorem asNIL_STR (v : Value) (w : World) : (Instr.typeAssert (.iface 112 v) 44 74 true).run Tryz.prog w = .ok (.tuple #[.string ByteArray.empty, .bool false]) w := by kernel_rfl
@[go_sem] theorem asTAB_TAB (v : Value) (w : World) : (Instr.typeAssert (.iface 34 v) 44 34 true).run Tryz.prog w = .ok (.tuple #[v, .bool true]) w := by kernel_rfl
@[go_sem] theorem asTAB_FN (v : Value) (w : World) : (Instr.typeAssert (.iface 34 v) 44 36 true).run Tryz.prog w = .ok (.tuple #[.pointer none, .bool false]) w := by kernel_rfl
@[go_sem] theorem asTAB_UD (v : Value) (w : World) : (Instr.typeAssert (.iface 34 v) 44 38 true).run Tryz.prog w = .ok (.tuple #[.pointer none, .bool false]) w := by kernel_rfl
@[go_sem] theorem asTAB_TH (v : Value) (w : World) : (Instr.typeAssert (.iface 34 v) 44 25 true).run Tryz.prog w = .ok (.tuple #[.pointer none, .bool false]) w := by kernel_rfl
@[go_sem] theorem asTAB_NUM (v : Value) (w : World) : (Instr.typeAssert (.iface 34 v) 44 95 true).run Tryz.prog w = .ok (.tuple #[.float .f64 0, .bool false]) w := by kernel_rfl
@[go_sem] theorem asTAB_STR (v : Value) (w : World) : (Instr.typeAssert (.iface 34 v) 44 74 true).run Tryz.prog w = .ok (.tuple #[.string ByteArray.empty, .bool false]) w := by kernel_rfl
@[go_sem] theorem asFN_TAB (v : Value) (w : World) : (Instr.typeAssert (.iface 36 v) 44 34 true).run Tryz.prog w = .ok (.tuple #[.pointer none, .bool false]) w := by kernel_rfl
@[go_sem] theorem asFN_FN (v : Value) (w : World) : (Instr.typeAssert (.iface 36 v) 44 36 true).run Tryz.prog w = .ok (.tuple #[v, .bool true]) w := by kernel_rfl
@[go_sem] theorem asFN_UD (v : Value) (w : World) : (Instr.typeAssert (.iface 36 v) 44 38 true).run Tryz.prog w = .ok (.tuple #[.pointer none, .bool false]) w := by kernel_rfl
@[go_sem] theorem asFN_TH (v : Value) (w : World) : (Instr.typeAssert (.iface 36 v) 44 25 true).run Tryz.prog w = .ok (.tuple #[.pointer none, .bool false]) w := by kernel_rfl
@[go_sem] theorem asFN_NUM (v : Value) (w : World) : (Instr.typeAssert (.iface 36 v) 44 95 true).run Tryz.prog w = .ok (.tuple #[.float .f64 0, .bool false]) w := by kernel_rfl
@[go_sem] theorem asFN_STR (v : Value) (w : World) : (Instr.typeAssert (.iface 36 v) 44 74 true).run Tryz.prog w = .ok (.tuple #[.string ByteArray.empty, .bool false]) w := by kernel_rfl
@[go_sem] theorem asUD_TAB (v : Value) (w : World) : (Instr.typeAssert (.iface 38 v) 44 34 true).run Tryz.prog w = .ok (.tuple #[.pointer none, .bool false]) w := by kernel_rfl
@[go_sem] theorem asUD_FN (v : Value) (w : World) : (Instr.typeAssert (.iface 38 v) 44 36 true).run Tryz.prog w = .ok (.tuple #[.pointer none, .bool false]) w := by kernel_rfl
@[go_sem] theorem asUD_UD (v : Value) (w : World) : (Instr.typeAssert (.iface 38 v) 44 38 true).run Tryz.prog w = .ok (.tuple #[v, .bool true]) w := by kernel_rfl
@[go_sem] theorem asUD_TH (v : Value) (w : World) : (Instr.typeAssert (.iface 38 v) 44 25 true).run Tryz.prog w = .ok (.tuple #[.pointer none, .bool false]) w := by kernel_rfl
@[go_sem] theorem asUD_NUM (v : Value) (w : World) : (Instr.typeAssert (.iface 38 v) 44 95 true).run Tryz.prog w = .ok (.tuple #[.float .f64 0, .bool false]) w := by kernel_rfl
@[go_sem] theorem asUD_STR (v : Value) (w : World) : (Instr.typeAssert (.iface 38 v) 44 74 true).run Tryz.prog w = .ok (.tuple #[.string ByteArray.empty, .bool false]) w := by kernel_rfl
@[go_sem] theorem asTH_TAB (v : Value) (w : World) : (Instr.typeAssert (.iface 25 v) 44 34 true).run Tryz.prog w = .ok (.tuple #[.pointer none, .bool false]) w := by kernel_rfl
@[go_sem] theorem asTH_FN (v : Value) (w : World) : (Instr.typeAssert (.iface 25 v) 44 36 true).run Tryz.prog w = .ok (.tuple #[.pointer none, .bool false]) w := by kernel_rfl
@[go_sem] theorem asTH_UD (v : Value) (w : World) : (Instr.typeAssert (.iface 25 v) 44 38 true).run Tryz.prog w = .ok (.tuple #[.pointer none, .bool false]) w := by kernel_rfl
@[go_sem] theorem asTH_TH (v : Value) (w : World) : (Instr.typeAssert (.iface 25 v) 44 25 true).run Tryz.prog w = .ok (.tuple #[v, .bool true]) w := by kernel_rfl
@[go_sem] theorem asTH_NUM (v : Value) (w : World) : (Instr.typeAssert (.iface 25 v) 44 95 true).run Tryz.prog w = .ok (.tuple #[.float .f64 0, .bool false]) w := by kernel_rfl
@[go_sem] theorem asTH_STR (v : Value) (w : World) : (Instr.typeAssert (.iface 25 v) 44 74 true).run Tryz.prog w = .ok (.tuple #[.string ByteArray.empty, .bool false]) w := by kernel_rfl

@[go_sem] theorem mSTRType (v : Value) (w : World) : (method 451 74 v "Type").run Tryz.prog w = .ok (185, v) w := by kernel_rfl
@[go_sem] theorem mSTRString (v : Value) (w : World) : (method 451 74 v "String").run Tryz.prog w = .ok (184, v) w := by kernel_rfl
@[go_sem] theorem mNILType (v : Value) (w : World) : (method 451 112 v "Type").run Tryz.prog w = .ok (206, v) w := by kernel_rfl
@[go_sem] theorem mTABType (v : Value) (w : World) : (method 451 34 v "Type").run Tryz.prog w = .ok (178, v) w := by kernel_rfl

end Go.Proofs.YtejhfhcndpehiaaGreatFmt
