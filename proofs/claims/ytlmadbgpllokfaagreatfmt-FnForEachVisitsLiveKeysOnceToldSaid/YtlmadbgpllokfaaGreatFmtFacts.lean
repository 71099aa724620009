/- Closed facts of this translation: which value becomes an interface value, what each type assertion says. -/
import Derived.Test.YtlmadbgpllokfaaGreatFmtRows
import Derived.WalkKit
import Derived.WalkSpells
import Derived.WalkLawsBesides
import Derived.Laws.EntriesVeiled
import Derived.Laws.Build
import Derived.Stop.Asserts
namespace Go.Proofs.YtlmadbgpllokfaaGreatFmt
open Go.RowKit

/-- The law answered true; below what was there nothing has changed. -/
def Good (w : World) (e : Ending) (w' : World) : Prop := e = .returned (.bool true) ∧ Below w.heap.size w w'

@[go_sem] theorem mkSTR (x : Value) (w : World) : (Instr.makeInterface 78 x).run Tryz.prog w = .ok (.iface 78 x) w := run_makeInterface w 78 x (by kernel_rfl)
@[go_sem] theorem mkBOOL (x : Value) (w : World) : (Instr.makeInterface 125 x).run Tryz.prog w = .ok (.iface 125 x) w := run_makeInterface w 125 x (by kernel_rfl)
@[go_sem] theorem mkNUM (x : Value) (w : World) : (Instr.makeInterface 53 x).run Tryz.prog w = .ok (.iface 53 x) w := run_makeInterface w 53 x (by kernel_rfl)
@[go_sem] theorem mkNIL (x : Value) (w : World) : (Instr.makeInterface 69 x).run Tryz.prog w = .ok (.iface 69 x) w := run_makeInterface w 69 x (by kernel_rfl)
@[go_sem] theorem mkTAB (x : Value) (w : World) : (Instr.makeInterface 32 x).run Tryz.prog w = .ok (.iface 32 x) w := run_makeInterface w 32 x (by kernel_rfl)
@[go_sem] theorem mkFN (x : Value) (w : World) : (Instr.makeInterface 151 x).run Tryz.prog w = .ok (.iface 151 x) w := run_makeInterface w 151 x (by kernel_rfl)
@[go_sem] theorem mkUD (x : Value) (w : World) : (Instr.makeInterface 144 x).run Tryz.prog w = .ok (.iface 144 x) w := run_makeInterface w 144 x (by kernel_rfl)
@[go_sem] theorem mkTH (x : Value) (w : World) : (Instr.makeInterface 30 x).run Tryz.prog w = .ok (.iface 30 x) w := run_makeInterface w 30 x (by kernel_rfl)

@[go_sem] theorem asSTR_TAB (v : Value) (w : World) : (Instr.typeAssert (.iface 78 v) 49 32 true).run Tryz.prog w = .ok (.tuple #[.pointer none, .bool false]) w := by kernel_rfl
@[go_sem] theorem asSTR_FN (v : Value) (w : World) : (Instr.typeAssert (.iface 78 v) 49 151 true).run Tryz.prog w = .ok (.tuple #[.pointer none, .bool false]) w := by kernel_rfl
@[go_sem] theorem asSTR_UD (v : Value) (w : World) : (Instr.typeAssert (.iface 78 v) 49 144 true).run Tryz.prog w = .ok (.tuple #[.pointer none, .bool false]) w := by kernel_rfl
@[go_sem] theorem asSTR_TH (v : Value) (w : World) : (Instr.typeAssert (.iface 78 v) 49 30 true).run Tryz.prog w = .ok (.tuple #[.pointer none, .bool false]) w := by kernel_rfl
@[go_sem] theorem asSTR_NUM (v : Value) (w : World) : (Instr.typeAssert (.iface 78 v) 49 53 true).run Tryz.prog w = .ok (.tuple #[.float .f64 0, .bool false]) w := by kernel_rfl
@[go_sem] theorem asSTR_STR (v : Value) (w : World) : (Instr.typeAssert (.iface 78 v) 49 78 true).run Tryz.prog w = .ok (.tuple #[v, .bool true]) w := by kernel_rfl
@[go_sem] theorem asBOOL_TAB (v : Value) (w : World) : (Instr.typeAssert (.iface 125 v) 49 32 true).run Tryz.prog w = .ok (.tuple #[.pointer none, .bool false]) w := by kernel_rfl
@[go_sem] theorem asBOOL_FN (v : Value) (w : World) : (Instr.typeAssert (.iface 125 v) 49 151 true).run Tryz.prog w = .ok (.tuple #[.pointer none, .bool false]) w := by kernel_rfl
@[go_sem] theorem asBOOL_UD (v : Value) (w : World) : (Instr.typeAssert (.iface 125 v) 49 144 true).run Tryz.prog w = .ok (.tuple #[.pointer none, .bool false]) w := by kernel_rfl
@[go_sem] theorem asBOOL_TH (v : Value) (w : World) : (Instr.typeAssert (.iface 125 v) 49 30 true).run Tryz.prog w = .ok (.tuple #[.pointer none, .bool false]) w := by kernel_rfl
@[go_sem] theorem asBOOL_NUM (v : Value) (w : World) : (Instr.typeAssert (.iface 125 v) 49 53 true).run Tryz.prog w = .ok (.tuple #[.float .f64 0, .bool false]) w := by kernel_rfl
@[go_sem] theorem asBOOL_STR (v : Value) (w : World) : (Instr.typeAssert (.iface 125 v) 49 78 true).run Tryz.prog w = .ok (.tuple #[.string ByteArray.empty, .bool false]) w := by kernel_rfl
@[go_sem] theorem asNUM_TAB (v : Value) (w : World) : (Instr.typeAssert (.iface 53 v) 49 32 true).run Tryz.prog w = .ok (.tuple #[.pointer none, .bool false]) w := by kernel_rfl
@[go_sem] theorem asNUM_FN (v : Value) (w : World) : (Instr.typeAssert (.iface 53 v) 49 151 true).run Tryz.prog w = .ok (.tuple #[.pointer none, .bool false]) w := by kernel_rfl
@[go_sem] theorem asNUM_UD (v : Value) (w : World) : (Instr.typeAssert (.iface 53 v) 49 144 true).run Tryz.prog w = .ok (.tuple #[.pointer none, .bool false]) w := by kernel_rfl
@[go_sem] theorem asNUM_TH (v : Value) (w : World) : (Instr.typeAssert (.iface 53 v) 49 30 true).run Tryz.prog w = .ok (.tuple #[.pointer none, .bool false]) w := by kernel_rfl
@[go_sem] theorem asNUM_NUM (v : Value) (w : World) : (Instr.typeAssert (.iface 53 v) 49 53 true).run Tryz.prog w = .ok (.tuple #[v, .bool true]) w := by kernel_rfl
@[go_sem] theorem asNUM_STR (v : Value) (w : World) : (Instr.typeAssert (.iface 53 v) 49 78 true).run Tryz.prog w = .ok (.tuple #[.string ByteArray.empty, .bool false]) w := by kernel_rfl
@[go_sem] theorem asNIL_TAB (v : Value) (w : World) : (Instr.typeAssert (.iface 69 v) 49 32 true).run Tryz.prog w = .ok (.tuple #[.pointer none, .bool false]) w := by kernel_rfl
@[go_sem] theorem asNIL_FN (v : Value) (w : World) : (Instr.typeAssert (.iface 69 v) 49 151 true).run Tryz.prog w = .ok (.tuple #[.pointer none, .bool false]) w := by kernel_rfl
@[go_sem] theorem asNIL_UD (v : Value) (w : World) : (Instr.typeAssert (.iface 69 v) 49 144 true).run Tryz.prog w = .ok (.tuple #[.pointer none, .bool false]) w := by kernel_rfl
@[go_sem] theorem asNIL_TH (v : Value) (w : World) : (Instr.typeAssert (.iface 69 v) 49 30 true).run Tryz.prog w = .ok (.tuple #[.pointer none, .bool false]) w := by kernel_rfl
@[go_sem] theorem asNIL_NUM (v : Value) (w : World) : (Instr.typeAssert (.iface 69 v) 49 53 true).run Tryz.prog w = .ok (.tuple #[.float .f64 0, .bool false]) w := by kernel_rfl
@[go_sem] theorem asNIL_STR (v : Value) (w : World) : (Instr.typeAssert (.iface 69 v) 49 78 true).run Tryz.prog w = .ok (.tuple #[.string ByteArray.empty, .bool false]) w := by kernel_rfl
@[go_sem] theorem asTAB_TAB (v : Value) (w : World) : (Instr.typeAssert (.iface 32 v) 49 32 true).run Tryz.prog w = .ok (.tuple #[v, .bool true]) w := by kernel_rfl
@[go_sem] theorem asTAB_FN (v : Value) (w : World) : (Instr.typeAssert (.iface 32 v) 49 151 true).run Tryz.prog w = .ok (.tuple #[.pointer none, .bool false]) w := by kernel_rfl
@[go_sem] theorem asTAB_UD (v : Value) (w : World) : (Instr.typeAssert (.iface 32 v) 49 144 true).run Tryz.prog w = .ok (.tuple #[.pointer none, .bool false]) w := by kernel_rfl
@[go_sem] theorem asTAB_TH (v : Value) (w : World) : (Instr.typeAssert (.iface 32 v) 49 30 true).run Tryz.prog w = .ok (.tuple #[.pointer none, .bool false]) w := by kernel_rfl
@[go_sem] theorem asTAB_NUM (v : Value) (w : World) : (Instr.typeAssert (.iface 32 v) 49 53 true).run Tryz.prog w = .ok (.tuple #[.float .f64 0, .bool false]) w := by kernel_rfl
@[go_sem] theorem asTAB_STR (v : Value) (w : World) : (Instr.typeAssert (.iface 32 v) 49 78 true).run Tryz.prog w = .ok (.tuple #[.string ByteArray.empty, .bool false]) w := by kernel_rfl
@[go_sem] theorem asFN_TAB (v : Value) (w : World) : (Instr.typeAssert (.iface 151 v) 49 32 true).run Tryz.prog w = .ok (.tuple #[.pointer none, .bool false]) w := by kernel_rfl
@[go_sem] theorem asFN_FN (v : Value) (w : World) : (Instr.typeAssert (.iface 151 v) 49 151 true).run Tryz.prog w = .ok (.tuple #[v, .bool true]) w := by kernel_rfl
@[go_sem] theorem asFN_UD (v : Value) (w : World) : (Instr.typeAssert (.iface 151 v) 49 144 true).run Tryz.prog w = .ok (.tuple #[.pointer none, .bool false]) w := by kernel_rfl
@[go_sem] theorem asFN_TH (v : Value) (w : World) : (Instr.typeAssert (.iface 151 v) 49 30 true).run Tryz.prog w = .ok (.tuple #[.pointer none, .bool false]) w := by kernel_rfl
@[go_sem] theorem asFN_NUM (v : Value) (w : World) : (Instr.typeAssert (.iface 151 v) 49 53 true).run Tryz.prog w = .ok (.tuple #[.float .f64 0, .bool false]) w := by kernel_rfl
@[go_sem] theorem asFN_STR (v : Value) (w : World) : (Instr.typeAssert (.iface 151 v) 49 78 true).run Tryz.prog w = .ok (.tuple #[.string ByteArray.empty, .bool false]) w := by kernel_rfl
@[go_sem] theorem asUD_TAB (v : Value) (w : World) : (Instr.typeAssert (.iface 144 v) 49 32 true).run Tryz.prog w = .ok (.tuple #[.pointer none, .bool false]) w := by kernel_rfl
@[go_sem] theorem asUD_FN (v : Value) (w : World) : (Instr.typeAssert (.iface 144 v) 49 151 true).run Tryz.prog w = .ok (.tuple #[.pointer none, .bool false]) w := by kernel_rfl
@[go_sem] theorem asUD_UD (v : Value) (w : World) : (Instr.typeAssert (.iface 144 v) 49 144 true).run Tryz.prog w = .ok (.tuple #[v, .bool true]) w := by kernel_rfl
@[go_sem] theorem asUD_TH (v : Value) (w : World) : (Instr.typeAssert (.iface 144 v) 49 30 true).run Tryz.prog w = .ok (.tuple #[.pointer none, .bool false]) w := by kernel_rfl
@[go_sem] theorem asUD_NUM (v : Value) (w : World) : (Instr.typeAssert (.iface 144 v) 49 53 true).run Tryz.prog w = .ok (.tuple #[.float .f64 0, .bool false]) w := by kernel_rfl
@[go_sem] theorem asUD_STR (v : Value) (w : World) : (Instr.typeAssert (.iface 144 v) 49 78 true).run Tryz.prog w = .ok (.tuple #[.string ByteArray.empty, .bool false]) w := by kernel_rfl
@[go_sem] theorem asTH_TAB (v : Value) (w : World) : (Instr.typeAssert (.iface 30 v) 49 32 true).run Tryz.prog w = .ok (.tuple #[.pointer none, .bool false]) w := by kernel_rfl
@[go_sem] theorem asTH_FN (v : Value) (w : World) : (Instr.typeAssert (.iface 30 v) 49 151 true).run Tryz.prog w = .ok (.tuple #[.pointer none, .bool false]) w := by kernel_rfl
@[go_sem] theorem asTH_UD (v : Value) (w : World) : (Instr.typeAssert (.iface 30 v) 49 144 true).run Tryz.prog w = .ok (.tuple #[.pointer none, .bool false]) w := by kernel_rfl
@[go_sem] theorem asTH_TH (v : Value) (w : World) : (Instr.typeAssert (.iface 30 v) 49 30 true).run Tryz.prog w = .ok (.tuple #[v, .bool true]) w := by kernel_rfl
@[go_sem] theorem asTH_NUM (v : Value) (w : World) : (Instr.typeAssert (.iface 30 v) 49 53 true).run Tryz.prog w = .ok (.tuple #[.float .f64 0, .bool false]) w := by kernel_rfl
@[go_sem] theorem asTH_STR (v : Value) (w : World) : (Instr.typeAssert (.iface 30 v) 49 78 true).run Tryz.prog w = .ok (.tuple #[.string ByteArray.empty, .bool false]) w := by kernel_rfl

@[go_sem] theorem mSTRType (v : Value) (w : World) : (method 469 78 v "Type").run Tryz.prog w = .ok (232, v) w := by kernel_rfl
@[go_sem] theorem mSTRString (v : Value) (w : World) : (method 469 78 v "String").run Tryz.prog w = .ok (231, v) w := by kernel_rfl
@[go_sem] theorem mNILType (v : Value) (w : World) : (method 469 69 v "Type").run Tryz.prog w = .ok (230, v) w := by kernel_rfl
@[go_sem] theorem mNUMType (v : Value) (w : World) : (method 469 53 v "Type").run Tryz.prog w = .ok (228, v) w := by kernel_rfl
@[go_sem] theorem mTABType (v : Value) (w : World) : (method 469 32 v "Type").run Tryz.prog w = .ok (226, v) w := by kernel_rfl

end Go.Proofs.YtlmadbgpllokfaaGreatFmt
