/-
  No cell of these rows narrows 'for every input' (looked for: loops, veiled, ifaces, maps, wideKeys, modest, calm, conditions, laid).
  DERIVED. THE GIVEN ROWS OF THIS SEAT. 10 by the template 'for every input the law returns true; each argument reads behind the call as it read before'; 0 by the template 'total and deterministic' (their statements: YtejhfhcndpehiaaGreatFmtTotals.lean).
  GIVEN WITH THE SEED: the statements are not yours to turn. If you find one false, say at which input.
  Laid BY PROGRAM, IN A SANDBOX (cutbox-rows.mjs): the forced cells as the released guide's own fill.sh prints them over the translation a477ebedfbda3eab… (all of the seat's roots in one cut). By AI agents, Wed Nov 11 2026. No macro, syntax, notation, axiom, sorry.
-/
import Derived.Test.YtejhfhcndpehiaaGreatFmtChecked
import GoSem.Claim
import GoSem.ClaimJoined
import GoSem.ClaimMapViews
import Derived.JoinedTies
import Derived.KernelRfl
namespace Go.Proofs.YtejhfhcndpehiaaGreatFmt
/- THE CELL 'sum', in the pinned program and in every row, IS THE sha256 OF THE DUMP (.gsa) THAT YtejhfhcndpehiaaGreatFmtProg.lean LOADS. Nothing in Lean hashes anything: it is a label: what it is worth is what the hold of that sum in a sandbox is worth. -/
noncomputable def Tryz.pinned : Pinned := { name := "ytejhfhcndpehiaagreatfmt", sum := "a477ebedfbda3eabc0fe5acf723607a22e13299f04538002acb0daa487a152d6", checked := Tryz.checked }
namespace Rows
def none {H : Type} : Left H := { results := [], args := [] }

/-- 'n005_62.FnToThreadSignAgree': WHATEVER THE INPUT: true; the input reads as it did. -/
def fnToThreadSignAgreeSpec : ChangeSpec := { name := "fnToThreadSignAgree", fn := fun _ => fun
  | [d] => { results := [.lit (.bool true)], args := [d] }
  | _ => none }
def fnToThreadSignAgreeRow : OpenClaim := { program := "ytejhfhcndpehiaagreatfmt", sum := "a477ebedfbda3eabc0fe5acf723607a22e13299f04538002acb0daa487a152d6", func := "github.com/yuin/gopher-lua/n005_62.FnToThreadSignAgree", spec := "fnToThreadSignAgree", stops := ["fmt.Sprintf, its operands' methods called", "fmt.Sprint"], unfollowed := true, recurses := true, apart := false }
/-- NO THEOREM (fmt's text is open here; it may be false): for the released tool's asking of the row's closed facts alone. THE STATEMENT IS 'FnToThreadSignAgreeToldSaid' (YtejhfhcndpehiaaGreatFmtCards.lean). -/
def FnToThreadSignAgreeFormAsk : Prop := fnToThreadSignAgreeRow.holds Tryz.pinned (OpenSpec.ofChange fnToThreadSignAgreeSpec)

/-- ITS FALSE NEIGHBOUR: 'it returns false'. Refute it at one input. -/
def fnToThreadSignAgreeWrong : ChangeSpec := { name := "fnToThreadSignAgree", fn := fun _ => fun
  | [d] => { results := [.lit (.bool false)], args := [d] }
  | _ => none }
def FnToThreadSignAgreeWrongFormAsk : Prop := fnToThreadSignAgreeRow.holds Tryz.pinned (OpenSpec.ofChange fnToThreadSignAgreeWrong)

/-- 'n005_62.FnToTableSignAgree': WHATEVER THE INPUT: true; the input reads as it did. -/
def fnToTableSignAgreeSpec : ChangeSpec := { name := "fnToTableSignAgree", fn := fun _ => fun
  | [d] => { results := [.lit (.bool true)], args := [d] }
  | _ => none }
def fnToTableSignAgreeRow : OpenClaim := { program := "ytejhfhcndpehiaagreatfmt", sum := "a477ebedfbda3eabc0fe5acf723607a22e13299f04538002acb0daa487a152d6", func := "github.com/yuin/gopher-lua/n005_62.FnToTableSignAgree", spec := "fnToTableSignAgree", stops := ["fmt.Sprintf, its operands' methods called", "fmt.Sprint"], unfollowed := true, recurses := true, apart := false }
/-- NO THEOREM (fmt's text is open here; it may be false): for the released tool's asking of the row's closed facts alone. THE STATEMENT IS 'FnToTableSignAgreeToldSaid' (YtejhfhcndpehiaaGreatFmtCards.lean). -/
def FnToTableSignAgreeFormAsk : Prop := fnToTableSignAgreeRow.holds Tryz.pinned (OpenSpec.ofChange fnToTableSignAgreeSpec)

/-- ITS FALSE NEIGHBOUR: 'it returns false'. Refute it at one input. -/
def fnToTableSignAgreeWrong : ChangeSpec := { name := "fnToTableSignAgree", fn := fun _ => fun
  | [d] => { results := [.lit (.bool false)], args := [d] }
  | _ => none }
def FnToTableSignAgreeWrongFormAsk : Prop := fnToTableSignAgreeRow.holds Tryz.pinned (OpenSpec.ofChange fnToTableSignAgreeWrong)

/-- 'n005_62.FnToFunctionSignAgree': WHATEVER THE INPUT: true; the input reads as it did. -/
def fnToFunctionSignAgreeSpec : ChangeSpec := { name := "fnToFunctionSignAgree", fn := fun _ => fun
  | [d] => { results := [.lit (.bool true)], args := [d] }
  | _ => none }
def fnToFunctionSignAgreeRow : OpenClaim := { program := "ytejhfhcndpehiaagreatfmt", sum := "a477ebedfbda3eabc0fe5acf723607a22e13299f04538002acb0daa487a152d6", func := "github.com/yuin/gopher-lua/n005_62.FnToFunctionSignAgree", spec := "fnToFunctionSignAgree", stops := ["fmt.Sprintf, its operands' methods called", "fmt.Sprint"], unfollowed := true, recurses := true, apart := false }
/-- NO THEOREM (fmt's text is open here; it may be false): for the released tool's asking of the row's closed facts alone. THE STATEMENT IS 'FnToFunctionSignAgreeToldSaid' (YtejhfhcndpehiaaGreatFmtCards.lean). -/
def FnToFunctionSignAgreeFormAsk : Prop := fnToFunctionSignAgreeRow.holds Tryz.pinned (OpenSpec.ofChange fnToFunctionSignAgreeSpec)

/-- ITS FALSE NEIGHBOUR: 'it returns false'. Refute it at one input. -/
def fnToFunctionSignAgreeWrong : ChangeSpec := { name := "fnToFunctionSignAgree", fn := fun _ => fun
  | [d] => { results := [.lit (.bool false)], args := [d] }
  | _ => none }
def FnToFunctionSignAgreeWrongFormAsk : Prop := fnToFunctionSignAgreeRow.holds Tryz.pinned (OpenSpec.ofChange fnToFunctionSignAgreeWrong)

/-- 'n005_62.FnToUserDataSignAgree': WHATEVER THE INPUT: true; the input reads as it did. -/
def fnToUserDataSignAgreeSpec : ChangeSpec := { name := "fnToUserDataSignAgree", fn := fun _ => fun
  | [d] => { results := [.lit (.bool true)], args := [d] }
  | _ => none }
def fnToUserDataSignAgreeRow : OpenClaim := { program := "ytejhfhcndpehiaagreatfmt", sum := "a477ebedfbda3eabc0fe5acf723607a22e13299f04538002acb0daa487a152d6", func := "github.com/yuin/gopher-lua/n005_62.FnToUserDataSignAgree", spec := "fnToUserDataSignAgree", stops := ["fmt.Sprintf, its operands' methods called", "fmt.Sprint"], unfollowed := true, recurses := true, apart := false }
/-- NO THEOREM (fmt's text is open here; it may be false): for the released tool's asking of the row's closed facts alone. THE STATEMENT IS 'FnToUserDataSignAgreeToldSaid' (YtejhfhcndpehiaaGreatFmtCards.lean). -/
def FnToUserDataSignAgreeFormAsk : Prop := fnToUserDataSignAgreeRow.holds Tryz.pinned (OpenSpec.ofChange fnToUserDataSignAgreeSpec)

/-- ITS FALSE NEIGHBOUR: 'it returns false'. Refute it at one input. -/
def fnToUserDataSignAgreeWrong : ChangeSpec := { name := "fnToUserDataSignAgree", fn := fun _ => fun
  | [d] => { results := [.lit (.bool false)], args := [d] }
  | _ => none }
def FnToUserDataSignAgreeWrongFormAsk : Prop := fnToUserDataSignAgreeRow.holds Tryz.pinned (OpenSpec.ofChange fnToUserDataSignAgreeWrong)

/-- 'n005_62.FnToThreadWhole': WHATEVER THE INPUT: true; the input reads as it did. -/
def fnToThreadWholeSpec : ChangeSpec := { name := "fnToThreadWhole", fn := fun _ => fun
  | [d1, d2] => { results := [.lit (.bool true)], args := [d1, d2] }
  | _ => none }
def fnToThreadWholeRow : OpenClaim := { program := "ytejhfhcndpehiaagreatfmt", sum := "a477ebedfbda3eabc0fe5acf723607a22e13299f04538002acb0daa487a152d6", func := "github.com/yuin/gopher-lua/n005_62.FnToThreadWhole", spec := "fnToThreadWhole", stops := ["fmt.Sprintf, its operands' methods called", "fmt.Sprint"], unfollowed := true, recurses := true, apart := false }
/-- NO THEOREM (fmt's text is open here; it may be false): for the released tool's asking of the row's closed facts alone. THE STATEMENT IS 'FnToThreadWholeToldSaid' (YtejhfhcndpehiaaGreatFmtCards.lean). -/
def FnToThreadWholeFormAsk : Prop := fnToThreadWholeRow.holds Tryz.pinned (OpenSpec.ofChange fnToThreadWholeSpec)

/-- ITS FALSE NEIGHBOUR: 'it returns false'. Refute it at one input. -/
def fnToThreadWholeWrong : ChangeSpec := { name := "fnToThreadWhole", fn := fun _ => fun
  | [d1, d2] => { results := [.lit (.bool false)], args := [d1, d2] }
  | _ => none }
def FnToThreadWholeWrongFormAsk : Prop := fnToThreadWholeRow.holds Tryz.pinned (OpenSpec.ofChange fnToThreadWholeWrong)

/-- 'n005_62.FnToFunctionWhole': WHATEVER THE INPUT: true; the input reads as it did. -/
def fnToFunctionWholeSpec : ChangeSpec := { name := "fnToFunctionWhole", fn := fun _ => fun
  | [d1, d2] => { results := [.lit (.bool true)], args := [d1, d2] }
  | _ => none }
def fnToFunctionWholeRow : OpenClaim := { program := "ytejhfhcndpehiaagreatfmt", sum := "a477ebedfbda3eabc0fe5acf723607a22e13299f04538002acb0daa487a152d6", func := "github.com/yuin/gopher-lua/n005_62.FnToFunctionWhole", spec := "fnToFunctionWhole", stops := ["fmt.Sprintf, its operands' methods called", "fmt.Sprint"], unfollowed := true, recurses := true, apart := false }
/-- NO THEOREM (fmt's text is open here; it may be false): for the released tool's asking of the row's closed facts alone. THE STATEMENT IS 'FnToFunctionWholeToldSaid' (YtejhfhcndpehiaaGreatFmtCards.lean). -/
def FnToFunctionWholeFormAsk : Prop := fnToFunctionWholeRow.holds Tryz.pinned (OpenSpec.ofChange fnToFunctionWholeSpec)

/-- ITS FALSE NEIGHBOUR: 'it returns false'. Refute it at one input. -/
def fnToFunctionWholeWrong : ChangeSpec := { name := "fnToFunctionWhole", fn := fun _ => fun
  | [d1, d2] => { results := [.lit (.bool false)], args := [d1, d2] }
  | _ => none }
def FnToFunctionWholeWrongFormAsk : Prop := fnToFunctionWholeRow.holds Tryz.pinned (OpenSpec.ofChange fnToFunctionWholeWrong)

/-- 'n005_62.FnToUserDataWhole': WHATEVER THE INPUT: true; the input reads as it did. -/
def fnToUserDataWholeSpec : ChangeSpec := { name := "fnToUserDataWhole", fn := fun _ => fun
  | [d1, d2] => { results := [.lit (.bool true)], args := [d1, d2] }
  | _ => none }
def fnToUserDataWholeRow : OpenClaim := { program := "ytejhfhcndpehiaagreatfmt", sum := "a477ebedfbda3eabc0fe5acf723607a22e13299f04538002acb0daa487a152d6", func := "github.com/yuin/gopher-lua/n005_62.FnToUserDataWhole", spec := "fnToUserDataWhole", stops := ["fmt.Sprintf, its operands' methods called", "fmt.Sprint"], unfollowed := true, recurses := true, apart := false }
/-- NO THEOREM (fmt's text is open here; it may be false): for the released tool's asking of the row's closed facts alone. THE STATEMENT IS 'FnToUserDataWholeToldSaid' (YtejhfhcndpehiaaGreatFmtCards.lean). -/
def FnToUserDataWholeFormAsk : Prop := fnToUserDataWholeRow.holds Tryz.pinned (OpenSpec.ofChange fnToUserDataWholeSpec)

/-- ITS FALSE NEIGHBOUR: 'it returns false'. Refute it at one input. -/
def fnToUserDataWholeWrong : ChangeSpec := { name := "fnToUserDataWhole", fn := fun _ => fun
  | [d1, d2] => { results := [.lit (.bool false)], args := [d1, d2] }
  | _ => none }
def FnToUserDataWholeWrongFormAsk : Prop := fnToUserDataWholeRow.holds Tryz.pinned (OpenSpec.ofChange fnToUserDataWholeWrong)

/-- 'n005_62.FnToTableWhole': WHATEVER THE INPUT: true; the input reads as it did. -/
def fnToTableWholeSpec : ChangeSpec := { name := "fnToTableWhole", fn := fun _ => fun
  | [d1, d2] => { results := [.lit (.bool true)], args := [d1, d2] }
  | _ => none }
def fnToTableWholeRow : OpenClaim := { program := "ytejhfhcndpehiaagreatfmt", sum := "a477ebedfbda3eabc0fe5acf723607a22e13299f04538002acb0daa487a152d6", func := "github.com/yuin/gopher-lua/n005_62.FnToTableWhole", spec := "fnToTableWhole", stops := ["fmt.Sprintf, its operands' methods called", "fmt.Sprint"], unfollowed := true, recurses := true, apart := false }
/-- NO THEOREM (fmt's text is open here; it may be false): for the released tool's asking of the row's closed facts alone. THE STATEMENT IS 'FnToTableWholeToldSaid' (YtejhfhcndpehiaaGreatFmtCards.lean). -/
def FnToTableWholeFormAsk : Prop := fnToTableWholeRow.holds Tryz.pinned (OpenSpec.ofChange fnToTableWholeSpec)

/-- ITS FALSE NEIGHBOUR: 'it returns false'. Refute it at one input. -/
def fnToTableWholeWrong : ChangeSpec := { name := "fnToTableWhole", fn := fun _ => fun
  | [d1, d2] => { results := [.lit (.bool false)], args := [d1, d2] }
  | _ => none }
def FnToTableWholeWrongFormAsk : Prop := fnToTableWholeRow.holds Tryz.pinned (OpenSpec.ofChange fnToTableWholeWrong)

/-- 'n005_150.FnSetUpvalueExactCaseTable': WHATEVER THE INPUT: true; the input reads as it did. -/
def fnSetUpvalueExactCaseTableSpec : ChangeSpec := { name := "fnSetUpvalueExactCaseTable", fn := fun _ => fun
  | [d1, d2, d3, d4] => { results := [.lit (.bool true)], args := [d1, d2, d3, d4] }
  | _ => none }
def fnSetUpvalueExactCaseTableRow : OpenClaim := { program := "ytejhfhcndpehiaagreatfmt", sum := "a477ebedfbda3eabc0fe5acf723607a22e13299f04538002acb0daa487a152d6", func := "github.com/yuin/gopher-lua/n005_150.FnSetUpvalueExactCaseTable", spec := "fnSetUpvalueExactCaseTable", stops := ["fmt.Sprintf, its operands' methods called", "fmt.Sprint"], unfollowed := true, recurses := true, apart := false }
/-- NO THEOREM (fmt's text is open here; it may be false): for the released tool's asking of the row's closed facts alone. THE STATEMENT IS 'FnSetUpvalueExactCaseTableToldSaid' (YtejhfhcndpehiaaGreatFmtCards.lean). -/
def FnSetUpvalueExactCaseTableFormAsk : Prop := fnSetUpvalueExactCaseTableRow.holds Tryz.pinned (OpenSpec.ofChange fnSetUpvalueExactCaseTableSpec)

/-- ITS FALSE NEIGHBOUR: 'it returns false'. Refute it at one input. -/
def fnSetUpvalueExactCaseTableWrong : ChangeSpec := { name := "fnSetUpvalueExactCaseTable", fn := fun _ => fun
  | [d1, d2, d3, d4] => { results := [.lit (.bool false)], args := [d1, d2, d3, d4] }
  | _ => none }
def FnSetUpvalueExactCaseTableWrongFormAsk : Prop := fnSetUpvalueExactCaseTableRow.holds Tryz.pinned (OpenSpec.ofChange fnSetUpvalueExactCaseTableWrong)

/-- 'n005_150.FnSetUpvalueSharedCellsAndGoFunctionRefused': WHATEVER THE INPUT: true; the input reads as it did. -/
def fnSetUpvalueSharedCellsAndGoFunctionRefusedSpec : ChangeSpec := { name := "fnSetUpvalueSharedCellsAndGoFunctionRefused", fn := fun _ => fun
  | [d1, d2, d3, d4] => { results := [.lit (.bool true)], args := [d1, d2, d3, d4] }
  | _ => none }
def fnSetUpvalueSharedCellsAndGoFunctionRefusedRow : OpenClaim := { program := "ytejhfhcndpehiaagreatfmt", sum := "a477ebedfbda3eabc0fe5acf723607a22e13299f04538002acb0daa487a152d6", func := "github.com/yuin/gopher-lua/n005_150.FnSetUpvalueSharedCellsAndGoFunctionRefused", spec := "fnSetUpvalueSharedCellsAndGoFunctionRefused", stops := ["fmt.Sprintf, its operands' methods called", "fmt.Sprint"], unfollowed := true, recurses := true, apart := false }
/-- NO THEOREM (fmt's text is open here; it may be false): for the released tool's asking of the row's closed facts alone. THE STATEMENT IS 'FnSetUpvalueSharedCellsAndGoFunctionRefusedToldSaid' (YtejhfhcndpehiaaGreatFmtCards.lean). -/
def FnSetUpvalueSharedCellsAndGoFunctionRefusedFormAsk : Prop := fnSetUpvalueSharedCellsAndGoFunctionRefusedRow.holds Tryz.pinned (OpenSpec.ofChange fnSetUpvalueSharedCellsAndGoFunctionRefusedSpec)

/-- ITS FALSE NEIGHBOUR: 'it returns false'. Refute it at one input. -/
def fnSetUpvalueSharedCellsAndGoFunctionRefusedWrong : ChangeSpec := { name := "fnSetUpvalueSharedCellsAndGoFunctionRefused", fn := fun _ => fun
  | [d1, d2, d3, d4] => { results := [.lit (.bool false)], args := [d1, d2, d3, d4] }
  | _ => none }
def FnSetUpvalueSharedCellsAndGoFunctionRefusedWrongFormAsk : Prop := fnSetUpvalueSharedCellsAndGoFunctionRefusedRow.holds Tryz.pinned (OpenSpec.ofChange fnSetUpvalueSharedCellsAndGoFunctionRefusedWrong)

end Rows
end Go.Proofs.YtejhfhcndpehiaaGreatFmt
