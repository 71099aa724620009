/- Closed facts of this translation: which value becomes an interface value, what each type assertion says. -/
import Derived.Test.YtceejkkkicanmaaGreatFmtRows
import Derived.WalkKit
import Derived.WalkSpells
import Derived.WalkLawsBesides
import Derived.Laws.EntriesVeiled
import Derived.Laws.Build
import Derived.Stop.Asserts
namespace Go.Proofs.YtceejkkkicanmaaGreatFmt
open Go.RowKit

/-- The law answered true; below what was there nothing has changed. -/
def Good (w : World) (e : Ending) (w' : World) : Prop := e = .returned (.bool true) ∧ Below w.heap.size w w'

@[go_sem] theorem mkSTR (x : Value) (w : World) : (Instr.makeInterface 82 x).run Tryz.prog w = .ok (.iface 82 x) w := run_makeInterface w 82 x (by kernel_rfl)
@[go_sem] theorem mkBOOL (x : Value) (w : World) : (Instr.makeInterface 94 x).run Tryz.prog w = .ok (.iface 94 x) w := run_makeInterface w 94 x (by kernel_rfl)
@[go_sem] theorem mkNUM (x : Value) (w : World) : (Instr.makeInterface 38 x).run Tryz.prog w = .ok (.iface 38 x) w := run_makeInterface w 38 x (by kernel_rfl)
@[go_sem] theorem mkNIL (x : Value) (w : World) : (Instr.makeInterface 36 x).run Tryz.prog w = .ok (.iface 36 x) w := run_makeInterface w 36 x (by kernel_rfl)
@[go_sem] theorem mkTAB (x : Value) (w : World) : (Instr.makeInterface 33 x).run Tryz.prog w = .ok (.iface 33 x) w := run_makeInterface w 33 x (by kernel_rfl)
@[go_sem] theorem mkFN (x : Value) (w : World) : (Instr.makeInterface 130 x).run Tryz.prog w = .ok (.iface 130 x) w := run_makeInterface w 130 x (by kernel_rfl)
@[go_sem] theorem mkUD (x : Value) (w : World) : (Instr.makeInterface 123 x).run Tryz.prog w = .ok (.iface 123 x) w := run_makeInterface w 123 x (by kernel_rfl)
@[go_sem] theorem mkTH (x : Value) (w : World) : (Instr.makeInterface 31 x).run Tryz.prog w = .ok (.iface 31 x) w := run_makeInterface w 31 x (by kernel_rfl)

@[go_sem] theorem asSTR_TAB (v : Value) (w : World) : (Instr.typeAssert (.iface 82 v) 41 33 true).run Tryz.prog w = .ok (.tuple #[.pointer none, .bool false]) w := by kernel_rfl
@[go_sem] theorem asSTR_FN (v : Value) (w : World) : (Instr.typeAssert (.iface 82 v) 41 130 true).run Tryz.prog w = .ok (.tuple #[.pointer none, .bool false]) w := by kernel_rfl
@[go_sem] theorem asSTR_UD (v : Value) (w : World) : (Instr.typeAssert (.iface 82 v) 41 123 true).run Tryz.prog w = .ok (.tuple #[.pointer none, .bool false]) w := by kernel_rfl
@[go_sem] theorem asSTR_TH (v : Value) (w : World) : (Instr.typeAssert (.iface 82 v) 41 31 true).run Tryz.prog w = .ok (.tuple #[.pointer none, .bool false]) w := by kernel_rfl
@[go_sem] theorem asSTR_NUM (v : Value) (w : World) : (Instr.typeAssert (.iface 82 v) 41 38 true).run Tryz.prog w = .ok (.tuple #[.float .f64 0, .bool false]) w := by kernel_rfl
@[go_sem] theorem asSTR_STR (v : Value) (w : World) : (Instr.typeAssert (.iface 82 v) 41 82 true).run Tryz.prog w = .ok (.tuple #[v, .bool true]) w := by kernel_rfl
@[go_sem] theorem asBOOL_TAB (v : Value) (w : World) : (Instr.typeAssert (.iface 94 v) 41 33 true).run Tryz.prog w = .ok (.tuple #[.pointer none, .bool false]) w := by kernel_rfl
@[go_sem] theorem asBOOL_FN (v : Value) (w : World) : (Instr.typeAssert (.iface 94 v) 41 130 true).run Tryz.prog w = .ok (.tuple #[.pointer none, .bool false]) w := by kernel_rfl
@[go_sem] theorem asBOOL_UD (v : Value) (w : World) : (Instr.typeAssert (.iface 94 v) 41 123 true).run Tryz.prog w = .ok (.tuple #[.pointer none, .bool false]) w := by kernel_rfl
@[go_sem] theorem asBOOL_TH (v : Value) (w : World) : (Instr.typeAssert (.iface 94 v) 41 31 true).run Tryz.prog w = .ok (.tuple #[.pointer none, .bool false]) w := by kernel_rfl
@[go_sem] theorem asBOOL_NUM (v : Value) (w : World) : (Instr.typeAssert (.iface 94 v) 41 38 true).run Tryz.prog w = .ok (.tuple #[.float .f64 0, .bool false]) w := by kernel_rfl
@[go_sem] theorem asBOOL_STR (v : Value) (w : World) : (Instr.typeAssert (.iface 94 v) 41 82 true).run Tryz.prog w = .ok (.tuple #[.string ByteArray.empty, .bool false]) w := by kernel_rfl
@[go_sem] theorem asNUM_TAB (v : Value) (w : World) : (Instr.typeAssert (.iface 38 v) 41 33 true).run Tryz.prog w = .ok (.tuple #[.pointer none, .bool false]) w := by kernel_rfl
@[go_sem] theorem asNUM_FN (v : Value) (w : World) : (Instr.typeAssert (.iface 38 v) 41 130 true).run Tryz.prog w = .ok (.tuple #[.pointer none, .bool false]) w := by kernel_rfl
@[go_sem] theorem asNUM_UD (v : Value) (w : World) : (Instr.typeAssert (.iface 38 v) 41 123 true).run Tryz.prog w = .ok (.tuple #[.pointer none, .bool false]) w := by kernel_rfl
@[go_sem] theorem asNUM_TH (v : Value) (w : World) : (Instr.typeAssert (.iface 38 v) 41 31 true).run Tryz.prog w = .ok (.tuple #[.pointer none, .bool false]) w := by kernel_rfl
@[go_sem] theorem asNUM_NUM (v : Value) (w : World) : (Instr.typeAssert (.iface 38 v) 41 38 true).run Tryz.prog w = .ok (.tuple #[v, .bool true]) w := by kernel_rfl
@[go_sem] theorem asNUM_STR (v : Value) (w : World) : (Instr.typeAssert (.iface 38 v) 41 82 true).run Tryz.prog w = .ok (.tuple #[.string ByteArray.empty, .bool false]) w := by kernel_rfl
@[go_sem] theorem asNIL_TAB (v : Value) (w : World) : (Instr.typeAssert (.iface 36 v) 41 33 true).run Tryz.prog w = .ok (.tuple #[.pointer none, .bool false]) w := by kernel_rfl
@[go_sem] theorem asNIL_FN (v : Value) (w : World) : (Instr.typeAssert (.iface 36 v) 41 130 true).run Tryz.prog w = .ok (.tuple #[.pointer none, .bool false]) w := by kernel_rfl
@[go_sem] theorem asNIL_UD (v : Value) (w : World) : (Instr.typeAssert (.iface 36 v) 41 123 true).run Tryz.prog w = .ok (.tuple #[.pointer none, .bool false]) w := by kernel_rfl
@[go_sem] theorem asNIL_TH (v : Value) (w : World) : (Instr.typeAssert (.iface 36 v) 41 31 true).run Tryz.prog w = .ok (.tuple #[.pointer none, .bool false]) w := by kernel_rfl
@[go_sem] theorem asNIL_NUM (v : Value) (w : World) : (Instr.typeAssert (.iface 36 v) 41 38 true).run Tryz.prog w = .ok (.tuple #[.float .f64 0, .bool false]) w := by kernel_rfl
@[go_sem] theorem asNIL_STR (v : Value) (w : World) : (Instr.typeAssert (.iface 36 v) 41 82 true).run Tryz.prog w = .ok (.tuple #[.string ByteArray.empty, .bool false]) w := by kernel_rfl
@[go_sem] theorem asTAB_TAB (v : Value) (w : World) : (Instr.typeAssert (.iface 33 v) 41 33 true).run Tryz.prog w = .ok (.tuple #[v, .bool true]) w := by kernel_rfl
@[go_sem] theorem asTAB_FN (v : Value) (w : World) : (Instr.typeAssert (.iface 33 v) 41 130 true).run Tryz.prog w = .ok (.tuple #[.pointer none, .bool false]) w := by kernel_rfl
@[go_sem] theorem asTAB_UD (v : Value) (w : World) : (Instr.typeAssert (.iface 33 v) 41 123 true).run Tryz.prog w = .ok (.tuple #[.pointer none, .bool false]) w := by kernel_rfl
@[go_sem] theorem asTAB_TH (v : Value) (w : World) : (Instr.typeAssert (.iface 33 v) 41 31 true).run Tryz.prog w = .ok (.tuple #[.pointer none, .bool false]) w := by kernel_rfl
@[go_sem] theorem asTAB_NUM (v : Value) (w : World) : (Instr.typeAssert (.iface 33 v) 41 38 true).run Tryz.prog w = .ok (.tuple #[.float .f64 0, .bool false]) w := by kernel_rfl
@[go_sem] theorem asTAB_STR (v : Value) (w : World) : (Instr.typeAssert (.iface 33 v) 41 82 true).run Tryz.prog w = .ok (.tuple #[.string ByteArray.empty, .bool false]) w := by kernel_rfl
@[go_sem] theorem asFN_TAB (v : Value) (w : World) : (Instr.typeAssert (.iface 130 v) 41 33 true).run Tryz.prog w = .ok (.tuple #[.pointer none, .bool false]) w := by kernel_rfl
@[go_sem] theorem asFN_FN (v : Value) (w : World) : (Instr.typeAssert (.iface 130 v) 41 130 true).run Tryz.prog w = .ok (.tuple #[v, .bool true]) w := by kernel_rfl
@[go_sem] theorem asFN_UD (v : Value) (w : World) : (Instr.typeAssert (.iface 130 v) 41 123 true).run Tryz.prog w = .ok (.tuple #[.pointer none, .bool false]) w := by kernel_rfl
@[go_sem] theorem asFN_TH (v : Value) (w : World) : (Instr.typeAssert (.iface 130 v) 41 31 true).run Tryz.prog w = .ok (.tuple #[.pointer none, .bool false]) w := by kernel_rfl
@[go_sem] theorem asFN_NUM (v : Value) (w : World) : (Instr.typeAssert (.iface 130 v) 41 38 true).run Tryz.prog w = .ok (.tuple #[.float .f64 0, .bool false]) w := by kernel_rfl
@[go_sem] theorem asFN_STR (v : Value) (w : World) : (Instr.typeAssert (.iface 130 v) 41 82 true).run Tryz.prog w = .ok (.tuple #[.string ByteArray.empty, .bool false]) w := by kernel_rfl
@[go_sem] theorem asUD_TAB (v : Value) (w : World) : (Instr.typeAssert (.iface 123 v) 41 33 true).run Tryz.prog w = .ok (.tuple #[.pointer none, .bool false]) w := by kernel_rfl
@[go_sem] theorem asUD_FN (v : Value) (w : World) : (Instr.typeAssert (.iface 123 v) 41 130 true).run Tryz.prog w = .ok (.tuple #[.pointer none, .bool false]) w := by kernel_rfl
@[go_sem] theorem asUD_UD (v : Value) (w : World) : (Instr.typeAssert (.iface 123 v) 41 123 true).run Tryz.prog w = .ok (.tuple #[v, .bool true]) w := by kernel_rfl
@[go_sem] theorem asUD_TH (v : Value) (w : World) : (Instr.typeAssert (.iface 123 v) 41 31 true).run Tryz.prog w = .ok (.tuple #[.pointer none, .bool false]) w := by kernel_rfl
@[go_sem] theorem asUD_NUM (v : Value) (w : World) : (Instr.typeAssert (.iface 123 v) 41 38 true).run Tryz.prog w = .ok (.tuple #[.float .f64 0, .bool false]) w := by kernel_rfl
@[go_sem] theorem asUD_STR (v : Value) (w : World) : (Instr.typeAssert (.iface 123 v) 41 82 true).run Tryz.prog w = .ok (.tuple #[.string ByteArray.empty, .bool false]) w := by kernel_rfl
@[go_sem] theorem asTH_TAB (v : Value) (w : World) : (Instr.typeAssert (.iface 31 v) 41 33 true).run Tryz.prog w = .ok (.tuple #[.pointer none, .bool false]) w := by kernel_rfl
@[go_sem] theorem asTH_FN (v : Value) (w : World) : (Instr.typeAssert (.iface 31 v) 41 130 true).run Tryz.prog w = .ok (.tuple #[.pointer none, .bool false]) w := by kernel_rfl
@[go_sem] theorem asTH_UD (v : Value) (w : World) : (Instr.typeAssert (.iface 31 v) 41 123 true).run Tryz.prog w = .ok (.tuple #[.pointer none, .bool false]) w := by kernel_rfl
@[go_sem] theorem asTH_TH (v : Value) (w : World) : (Instr.typeAssert (.iface 31 v) 41 31 true).run Tryz.prog w = .ok (.tuple #[v, .bool true]) w := by kernel_rfl
@[go_sem] theorem asTH_NUM (v : Value) (w : World) : (Instr.typeAssert (.iface 31 v) 41 38 true).run Tryz.prog w = .ok (.tuple #[.float .f64 0, .bool false]) w := by kernel_rfl
@[go_sem] theorem asTH_STR (v : Value) (w : World) : (Instr.typeAssert (.iface 31 v) 41 82 true).run Tryz.prog w = .ok (.tuple #[.string ByteArray.empty, .bool false]) w := by kernel_rfl

@[go_sem] theorem mSTRType (v : Value) (w : World) : (method 450 82 v "Type").run Tryz.prog w = .ok (202, v) w := by kernel_rfl
@[go_sem] theorem mSTRString (v : Value) (w : World) : (method 450 82 v "String").run Tryz.prog w = .ok (201, v) w := by kernel_rfl
@[go_sem] theorem mNILType (v : Value) (w : World) : (method 450 36 v "Type").run Tryz.prog w = .ok (196, v) w := by kernel_rfl
@[go_sem] theorem mNUMType (v : Value) (w : World) : (method 450 38 v "Type").run Tryz.prog w = .ok (197, v) w := by kernel_rfl
@[go_sem] theorem mTABType (v : Value) (w : World) : (method 450 33 v "Type").run Tryz.prog w = .ok (194, v) w := by kernel_rfl

end Go.Proofs.YtceejkkkicanmaaGreatFmt
