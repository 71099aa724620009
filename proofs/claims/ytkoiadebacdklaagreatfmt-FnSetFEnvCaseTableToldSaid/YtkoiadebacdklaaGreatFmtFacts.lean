/- Closed facts of this translation: which value becomes an interface value, what each type assertion says. -/
import Derived.Test.YtkoiadebacdklaaGreatFmtRows
import Derived.WalkKit
import Derived.WalkSpells
import Derived.WalkLawsBesides
import Derived.Laws.EntriesVeiled
import Derived.Laws.Build
import Derived.Stop.Asserts
namespace Go.Proofs.YtkoiadebacdklaaGreatFmt
open Go.RowKit

/-- The law answered true; below what was there nothing has changed. -/
def Good (w : World) (e : Ending) (w' : World) : Prop := e = .returned (.bool true) ∧ Below w.heap.size w w'

@[go_sem] theorem mkSTR (x : Value) (w : World) : (Instr.makeInterface 110 x).run Tryz.prog w = .ok (.iface 110 x) w := run_makeInterface w 110 x (by kernel_rfl)
@[go_sem] theorem mkBOOL (x : Value) (w : World) : (Instr.makeInterface 116 x).run Tryz.prog w = .ok (.iface 116 x) w := run_makeInterface w 116 x (by kernel_rfl)
@[go_sem] theorem mkNUM (x : Value) (w : World) : (Instr.makeInterface 111 x).run Tryz.prog w = .ok (.iface 111 x) w := run_makeInterface w 111 x (by kernel_rfl)
@[go_sem] theorem mkNIL (x : Value) (w : World) : (Instr.makeInterface 117 x).run Tryz.prog w = .ok (.iface 117 x) w := run_makeInterface w 117 x (by kernel_rfl)
@[go_sem] theorem mkTAB (x : Value) (w : World) : (Instr.makeInterface 34 x).run Tryz.prog w = .ok (.iface 34 x) w := run_makeInterface w 34 x (by kernel_rfl)
@[go_sem] theorem mkFN (x : Value) (w : World) : (Instr.makeInterface 54 x).run Tryz.prog w = .ok (.iface 54 x) w := run_makeInterface w 54 x (by kernel_rfl)
@[go_sem] theorem mkUD (x : Value) (w : World) : (Instr.makeInterface 99 x).run Tryz.prog w = .ok (.iface 99 x) w := run_makeInterface w 99 x (by kernel_rfl)
@[go_sem] theorem mkTH (x : Value) (w : World) : (Instr.makeInterface 26 x).run Tryz.prog w = .ok (.iface 26 x) w := run_makeInterface w 26 x (by kernel_rfl)

@[go_sem] theorem asSTR_TAB (v : Value) (w : World) : (Instr.typeAssert (.iface 110 v) 101 34 true).run Tryz.prog w = .ok (.tuple #[.pointer none, .bool false]) w := by kernel_rfl
@[go_sem] theorem asSTR_FN (v : Value) (w : World) : (Instr.typeAssert (.iface 110 v) 101 54 true).run Tryz.prog w = .ok (.tuple #[.pointer none, .bool false]) w := by kernel_rfl
@[go_sem] theorem asSTR_UD (v : Value) (w : World) : (Instr.typeAssert (.iface 110 v) 101 99 true).run Tryz.prog w = .ok (.tuple #[.pointer none, .bool false]) w := by kernel_rfl
@[go_sem] theorem asSTR_TH (v : Value) (w : World) : (Instr.typeAssert (.iface 110 v) 101 26 true).run Tryz.prog w = .ok (.tuple #[.pointer none, .bool false]) w := by kernel_rfl
@[go_sem] theorem asSTR_NUM (v : Value) (w : World) : (Instr.typeAssert (.iface 110 v) 101 111 true).run Tryz.prog w = .ok (.tuple #[.float .f64 0, .bool false]) w := by kernel_rfl
@[go_sem] theorem asSTR_STR (v : Value) (w : World) : (Instr.typeAssert (.iface 110 v) 101 110 true).run Tryz.prog w = .ok (.tuple #[v, .bool true]) w := by kernel_rfl
@[go_sem] theorem asBOOL_TAB (v : Value) (w : World) : (Instr.typeAssert (.iface 116 v) 101 34 true).run Tryz.prog w = .ok (.tuple #[.pointer none, .bool false]) w := by kernel_rfl
@[go_sem] theorem asBOOL_FN (v : Value) (w : World) : (Instr.typeAssert (.iface 116 v) 101 54 true).run Tryz.prog w = .ok (.tuple #[.pointer none, .bool false]) w := by kernel_rfl
@[go_sem] theorem asBOOL_UD (v : Value) (w : World) : (Instr.typeAssert (.iface 116 v) 101 99 true).run Tryz.prog w = .ok (.tuple #[.pointer none, .bool false]) w := by kernel_rfl
@[go_sem] theorem asBOOL_TH (v : Value) (w : World) : (Instr.typeAssert (.iface 116 v) 101 26 true).run Tryz.prog w = .ok (.tuple #[.pointer none, .bool false]) w := by kernel_rfl
@[go_sem] theorem asBOOL_NUM (v : Value) (w : World) : (Instr.typeAssert (.iface 116 v) 101 111 true).run Tryz.prog w = .ok (.tuple #[.float .f64 0, .bool false]) w := by kernel_rfl
@[go_sem] theorem asBOOL_STR (v : Value) (w : World) : (Instr.typeAssert (.iface 116 v) 101 110 true).run Tryz.prog w = .ok (.tuple #[.string ByteArray.empty, .bool false]) w := by kernel_rfl
@[go_sem] theorem asNUM_TAB (v : Value) (w : World) : (Instr.typeAssert (.iface 111 v) 101 34 true).run Tryz.prog w = .ok (.tuple #[.pointer none, .bool false]) w := by kernel_rfl
@[go_sem] theorem asNUM_FN (v : Value) (w : World) : (Instr.typeAssert (.iface 111 v) 101 54 true).run Tryz.prog w = .ok (.tuple #[.pointer none, .bool false]) w := by kernel_rfl
@[go_sem] theorem asNUM_UD (v : Value) (w : World) : (Instr.typeAssert (.iface 111 v) 101 99 true).run Tryz.prog w = .ok (.tuple #[.pointer none, .bool false]) w := by kernel_rfl
@[go_sem] theorem asNUM_TH (v : Value) (w : World) : (Instr.typeAssert (.iface 111 v) 101 26 true).run Tryz.prog w = .ok (.tuple #[.pointer none, .bool false]) w := by kernel_rfl
@[go_sem] theorem asNUM_NUM (v : Value) (w : World) : (Instr.typeAssert (.iface 111 v) 101 111 true).run Tryz.prog w = .ok (.tuple #[v, .bool true]) w := by kernel_rfl
@[go_sem] theorem asNUM_STR (v : Value) (w : World) : (Instr.typeAssert (.iface 111 v) 101 110 true).run Tryz.prog w = .ok (.tuple #[.string ByteArray.empty, .bool false]) w := by kernel_rfl
@[go_sem] theorem asNIL_TAB (v : Value) (w : World) : (Instr.typeAssert (.iface 117 v) 101 34 true).run Tryz.prog w = .ok (.tuple #[.pointer none, .bool false]) w := by kernel_rfl
@[go_sem] theorem asNIL_FN (v : Value) (w : World) : (Instr.typeAssert (.iface 117 v) 101 54 true).run Tryz.prog w = .ok (.tuple #[.pointer none, .bool false]) w := by kernel_rfl
@[go_sem] theorem asNIL_UD (v : Value) (w : World) : (Instr.typeAssert (.iface 117 v) 101 99 true).run Tryz.prog w = .ok (.tuple #[.pointer none, .bool false]) w := by kernel_rfl
@[go_sem] theorem asNIL_TH (v : Value) (w : World) : (Instr.typeAssert (.iface 117 v) 101 26 true).run Tryz.prog w = .ok (.tuple #[.pointer none, .bool false]) w := by kernel_rfl
@[go_sem] theorem asNIL_NUM (v : Value) (w : World) : (Instr.typeAssert (.iface 117 v) 101 111 true).run Tryz.prog w = .ok (.tuple #[.float .f64 0, .bool false]) w := by kernel_rfl
@[go_sem] theorem asNIL_STR (v : Value) (w : World) : (Instr.typeAssert (.iface 117 v) 101 110 true).run Tryz.prog w = .ok (.tuple #[.string ByteArray.empty, .bool false]) w := by kernel_rfl
@[go_sem] theorem asTAB_TAB (v : Value) (w : World) : (Instr.typeAssert (.iface 34 v) 101 34 true).run Tryz.prog w = .ok (.tuple #[v, .bool true]) w := by kernel_rfl
@[go_sem] theorem asTAB_FN (v : Value) (w : World) : (Instr.typeAssert (.iface 34 v) 101 54 true).run Tryz.prog w = .ok (.tuple #[.pointer none, .bool false]) w := by kernel_rfl
@[go_sem] theorem asTAB_UD (v : Value) (w : World) : (Instr.typeAssert (.iface 34 v) 101 99 true).run Tryz.prog w = .ok (.tuple #[.pointer none, .bool false]) w := by kernel_rfl
@[go_sem] theorem asTAB_TH (v : Value) (w : World) : (Instr.typeAssert (.iface 34 v) 101 26 true).run Tryz.prog w = .ok (.tuple #[.pointer none, .bool false]) w := by kernel_rfl
@[go_sem] theorem asTAB_NUM (v : Value) (w : World) : (Instr.typeAssert (.iface 34 v) 101 111 true).run Tryz.prog w = .ok (.tuple #[.float .f64 0, .bool false]) w := by kernel_rfl
@[go_sem] theorem asTAB_STR (v : Value) (w : World) : (Instr.typeAssert (.iface 34 v) 101 110 true).run Tryz.prog w = .ok (.tuple #[.string ByteArray.empty, .bool false]) w := by kernel_rfl
@[go_sem] theorem asFN_TAB (v : Value) (w : World) : (Instr.typeAssert (.iface 54 v) 101 34 true).run Tryz.prog w = .ok (.tuple #[.pointer none, .bool false]) w := by kernel_rfl
@[go_sem] theorem asFN_FN (v : Value) (w : World) : (Instr.typeAssert (.iface 54 v) 101 54 true).run Tryz.prog w = .ok (.tuple #[v, .bool true]) w := by kernel_rfl
@[go_sem] theorem asFN_UD (v : Value) (w : World) : (Instr.typeAssert (.iface 54 v) 101 99 true).run Tryz.prog w = .ok (.tuple #[.pointer none, .bool false]) w := by kernel_rfl
@[go_sem] theorem asFN_TH (v : Value) (w : World) : (Instr.typeAssert (.iface 54 v) 101 26 true).run Tryz.prog w = .ok (.tuple #[.pointer none, .bool false]) w := by kernel_rfl
@[go_sem] theorem asFN_NUM (v : Value) (w : World) : (Instr.typeAssert (.iface 54 v) 101 111 true).run Tryz.prog w = .ok (.tuple #[.float .f64 0, .bool false]) w := by kernel_rfl
@[go_sem] theorem asFN_STR (v : Value) (w : World) : (Instr.typeAssert (.iface 54 v) 101 110 true).run Tryz.prog w = .ok (.tuple #[.string ByteArray.empty, .bool false]) w := by kernel_rfl
@[go_sem] theorem asUD_TAB (v : Value) (w : World) : (Instr.typeAssert (.iface 99 v) 101 34 true).run Tryz.prog w = .ok (.tuple #[.pointer none, .bool false]) w := by kernel_rfl
@[go_sem] theorem asUD_FN (v : Value) (w : World) : (Instr.typeAssert (.iface 99 v) 101 54 true).run Tryz.prog w = .ok (.tuple #[.pointer none, .bool false]) w := by kernel_rfl
@[go_sem] theorem asUD_UD (v : Value) (w : World) : (Instr.typeAssert (.iface 99 v) 101 99 true).run Tryz.prog w = .ok (.tuple #[v, .bool true]) w := by kernel_rfl
@[go_sem] theorem asUD_TH (v : Value) (w : World) : (Instr.typeAssert (.iface 99 v) 101 26 true).run Tryz.prog w = .ok (.tuple #[.pointer none, .bool false]) w := by kernel_rfl
@[go_sem] theorem asUD_NUM (v : Value) (w : World) : (Instr.typeAssert (.iface 99 v) 101 111 true).run Tryz.prog w = .ok (.tuple #[.float .f64 0, .bool false]) w := by kernel_rfl
@[go_sem] theorem asUD_STR (v : Value) (w : World) : (Instr.typeAssert (.iface 99 v) 101 110 true).run Tryz.prog w = .ok (.tuple #[.string ByteArray.empty, .bool false]) w := by kernel_rfl
@[go_sem] theorem asTH_TAB (v : Value) (w : World) : (Instr.typeAssert (.iface 26 v) 101 34 true).run Tryz.prog w = .ok (.tuple #[.pointer none, .bool false]) w := by kernel_rfl
@[go_sem] theorem asTH_FN (v : Value) (w : World) : (Instr.typeAssert (.iface 26 v) 101 54 true).run Tryz.prog w = .ok (.tuple #[.pointer none, .bool false]) w := by kernel_rfl
@[go_sem] theorem asTH_UD (v : Value) (w : World) : (Instr.typeAssert (.iface 26 v) 101 99 true).run Tryz.prog w = .ok (.tuple #[.pointer none, .bool false]) w := by kernel_rfl
@[go_sem] theorem asTH_TH (v : Value) (w : World) : (Instr.typeAssert (.iface 26 v) 101 26 true).run Tryz.prog w = .ok (.tuple #[v, .bool true]) w := by kernel_rfl
@[go_sem] theorem asTH_NUM (v : Value) (w : World) : (Instr.typeAssert (.iface 26 v) 101 111 true).run Tryz.prog w = .ok (.tuple #[.float .f64 0, .bool false]) w := by kernel_rfl
@[go_sem] theorem asTH_STR (v : Value) (w : World) : (Instr.typeAssert (.iface 26 v) 101 110 true).run Tryz.prog w = .ok (.tuple #[.string ByteArray.empty, .bool false]) w := by kernel_rfl

@[go_sem] theorem mSTRType (v : Value) (w : World) : (method 451 110 v "Type").run Tryz.prog w = .ok (242, v) w := by kernel_rfl
@[go_sem] theorem mSTRString (v : Value) (w : World) : (method 451 110 v "String").run Tryz.prog w = .ok (241, v) w := by kernel_rfl
@[go_sem] theorem mNILType (v : Value) (w : World) : (method 451 117 v "Type").run Tryz.prog w = .ok (247, v) w := by kernel_rfl
@[go_sem] theorem mTABType (v : Value) (w : World) : (method 451 34 v "Type").run Tryz.prog w = .ok (219, v) w := by kernel_rfl

end Go.Proofs.YtkoiadebacdklaaGreatFmt
