/- Closed facts of this translation: which value becomes an interface value, what each type assertion says. -/
import Derived.Test.YtnmjidkbaohliaaGreatFmtRows
import Derived.WalkKit
import Derived.WalkSpells
import Derived.WalkLawsBesides
import Derived.Laws.EntriesVeiled
import Derived.Laws.Build
import Derived.Stop.Asserts
namespace Go.Proofs.YtnmjidkbaohliaaGreatFmt
open Go.RowKit

/-- The law answered true; below what was there nothing has changed. -/
def Good (w : World) (e : Ending) (w' : World) : Prop := e = .returned (.bool true) ∧ Below w.heap.size w w'

@[go_sem] theorem mkStr (x : Value) (w : World) : (Instr.makeInterface 27 x).run Tryz.prog w = .ok (.iface 27 x) w := run_makeInterface w 27 x (by kernel_rfl)
@[go_sem] theorem mkBool (x : Value) (w : World) : (Instr.makeInterface 86 x).run Tryz.prog w = .ok (.iface 86 x) w := run_makeInterface w 86 x (by kernel_rfl)
@[go_sem] theorem mkNum (x : Value) (w : World) : (Instr.makeInterface 96 x).run Tryz.prog w = .ok (.iface 96 x) w := run_makeInterface w 96 x (by kernel_rfl)
@[go_sem] theorem mkNil (x : Value) (w : World) : (Instr.makeInterface 110 x).run Tryz.prog w = .ok (.iface 110 x) w := run_makeInterface w 110 x (by kernel_rfl)
@[go_sem] theorem mkTab (x : Value) (w : World) : (Instr.makeInterface 38 x).run Tryz.prog w = .ok (.iface 38 x) w := run_makeInterface w 38 x (by kernel_rfl)
@[go_sem] theorem mkFn (x : Value) (w : World) : (Instr.makeInterface 34 x).run Tryz.prog w = .ok (.iface 34 x) w := run_makeInterface w 34 x (by kernel_rfl)
@[go_sem] theorem mkUd (x : Value) (w : World) : (Instr.makeInterface 92 x).run Tryz.prog w = .ok (.iface 92 x) w := run_makeInterface w 92 x (by kernel_rfl)
@[go_sem] theorem mkTh (x : Value) (w : World) : (Instr.makeInterface 52 x).run Tryz.prog w = .ok (.iface 52 x) w := run_makeInterface w 52 x (by kernel_rfl)
@[go_sem] theorem mkStack (x : Value) (w : World) : (Instr.makeInterface 117 x).run Tryz.prog w = .ok (.iface 117 x) w := run_makeInterface w 117 x (by kernel_rfl)

@[go_sem] theorem as27_27 (v : Value) (w : World) : (Instr.typeAssert (.iface 27 v) 56 27 true).run Tryz.prog w = .ok (.tuple #[v, .bool true]) w := by kernel_rfl
@[go_sem] theorem as27_96 (v : Value) (w : World) : (Instr.typeAssert (.iface 27 v) 56 96 true).run Tryz.prog w = .ok (.tuple #[.float .f64 0, .bool false]) w := by kernel_rfl
@[go_sem] theorem as96_27 (v : Value) (w : World) : (Instr.typeAssert (.iface 96 v) 56 27 true).run Tryz.prog w = .ok (.tuple #[.string ByteArray.empty, .bool false]) w := by kernel_rfl
@[go_sem] theorem as96_96 (v : Value) (w : World) : (Instr.typeAssert (.iface 96 v) 56 96 true).run Tryz.prog w = .ok (.tuple #[v, .bool true]) w := by kernel_rfl
@[go_sem] theorem as110_27 (v : Value) (w : World) : (Instr.typeAssert (.iface 110 v) 56 27 true).run Tryz.prog w = .ok (.tuple #[.string ByteArray.empty, .bool false]) w := by kernel_rfl
@[go_sem] theorem as110_96 (v : Value) (w : World) : (Instr.typeAssert (.iface 110 v) 56 96 true).run Tryz.prog w = .ok (.tuple #[.float .f64 0, .bool false]) w := by kernel_rfl
@[go_sem] theorem as86_27 (v : Value) (w : World) : (Instr.typeAssert (.iface 86 v) 56 27 true).run Tryz.prog w = .ok (.tuple #[.string ByteArray.empty, .bool false]) w := by kernel_rfl
@[go_sem] theorem as86_96 (v : Value) (w : World) : (Instr.typeAssert (.iface 86 v) 56 96 true).run Tryz.prog w = .ok (.tuple #[.float .f64 0, .bool false]) w := by kernel_rfl
@[go_sem] theorem as38_27 (v : Value) (w : World) : (Instr.typeAssert (.iface 38 v) 56 27 true).run Tryz.prog w = .ok (.tuple #[.string ByteArray.empty, .bool false]) w := by kernel_rfl
@[go_sem] theorem as38_96 (v : Value) (w : World) : (Instr.typeAssert (.iface 38 v) 56 96 true).run Tryz.prog w = .ok (.tuple #[.float .f64 0, .bool false]) w := by kernel_rfl
@[go_sem] theorem as92_27 (v : Value) (w : World) : (Instr.typeAssert (.iface 92 v) 56 27 true).run Tryz.prog w = .ok (.tuple #[.string ByteArray.empty, .bool false]) w := by kernel_rfl
@[go_sem] theorem as92_96 (v : Value) (w : World) : (Instr.typeAssert (.iface 92 v) 56 96 true).run Tryz.prog w = .ok (.tuple #[.float .f64 0, .bool false]) w := by kernel_rfl
@[go_sem] theorem as34_27 (v : Value) (w : World) : (Instr.typeAssert (.iface 34 v) 56 27 true).run Tryz.prog w = .ok (.tuple #[.string ByteArray.empty, .bool false]) w := by kernel_rfl
@[go_sem] theorem as34_96 (v : Value) (w : World) : (Instr.typeAssert (.iface 34 v) 56 96 true).run Tryz.prog w = .ok (.tuple #[.float .f64 0, .bool false]) w := by kernel_rfl
@[go_sem] theorem str27 (v : Value) (w : World) : (method 451 27 v "String").run Tryz.prog w = .ok (87, v) w := by kernel_rfl

end Go.Proofs.YtnmjidkbaohliaaGreatFmt
