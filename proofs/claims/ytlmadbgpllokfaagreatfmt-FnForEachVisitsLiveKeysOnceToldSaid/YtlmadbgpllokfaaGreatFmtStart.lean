/- A start in which the fifteen listed variables hold their data: the door's own heap, and in it the three pinned tables as Go's text lays them (seat r7's numbers: variables 1, 13, 16; types 304, 313, 312; the door leaves 32 blocks). -/
import Derived.Test.YtlmadbgpllokfaaGreatFmtShape
import Derived.LaidMore
import Derived.Deep.DeepLaidRun
import Derived.Lib.LaidIn
namespace Go.Proofs.YtlmadbgpllokfaaGreatFmt
set_option maxRecDepth 100000
def firstCells : List Value := Go.Pinned.utf8FirstZ.map fun n : Nat => Value.int .u8 (n : Int)
def powCells : List Value := Go.Pinned.pow10Rows.flatMap fun x : Nat × Nat => [Value.int .u64 (x.1 : Int), Value.int .u64 (x.2 : Int)]
def cheatCells : List Value := Go.Pinned.cheatRows.flatMap fun x => [.int .i64 x.1, .string ⟨x.2.toArray⟩]
/-- The door's heap; in it the three pinned variables as Go's text lays them. -/
noncomputable def startHeap (os : Os) : Array Obj :=
  let h := (World.doorLaid Tryz.prog 101 os).heap
  (((h.setIfInBounds 1 (.cells firstCells.toArray 199 (0, 0))).setIfInBounds 13 (.cells powCells.toArray 304 (0, 0))).setIfInBounds 16 (.cells #[.slice (some ⟨h.size, 0, none⟩) 61 61] 313 (0, 0))).push (.cells cheatCells.toArray 312 (0, 0))
noncomputable def startW (os : Os) : World := { World.doorLaid Tryz.prog 101 os with heap := startHeap os }
set_option maxHeartbeats 4000000 in
theorem in_first (os : Os) (args : Array Value) : LaidIn Tryz.prog ((startW os).forCall (fun _ _ => 0) ⟨#[], args, []⟩).memory [("unicode/utf8.first", Go.Pinned.utf8First)] [1] :=
  LaidIn.of_run [1] 8 (by kernel_rfl) (by kernel_rfl) (by kernel_rfl) (by kernel_rfl)
set_option maxHeartbeats 4000000 in
theorem in_cheats (os : Os) (args : Array Value) : LaidIn Tryz.prog ((startW os).forCall (fun _ _ => 0) ⟨#[], args, []⟩).memory [("internal/strconv.leftcheats", Go.Pinned.leftcheats)] [16, 32] :=
  LaidIn.of_run _ 8 (by kernel_rfl) (by kernel_rfl) (by kernel_rfl) (by kernel_rfl)
end Go.Proofs.YtlmadbgpllokfaaGreatFmt
