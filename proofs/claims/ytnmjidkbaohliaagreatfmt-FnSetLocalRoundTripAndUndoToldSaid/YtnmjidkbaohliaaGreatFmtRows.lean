/-
  No cell of these rows narrows 'for every input' (looked for: loops, veiled, ifaces, maps, wideKeys, modest, calm, conditions, laid).
  DERIVED. THE GIVEN ROWS OF THIS SEAT. 7 by the template 'for every input the law returns true; each argument reads behind the call as it read before'; 0 by the template 'total and deterministic' (their statements: YtnmjidkbaohliaaGreatFmtTotals.lean).
  GIVEN WITH THE SEED: the statements are not yours to turn. If you find one false, say at which input.
  Laid BY PROGRAM, IN A SANDBOX (cutbox-rows.mjs): the forced cells as the released guide's own fill.sh prints them over the translation e3698dd33a21445e… (all of the seat's roots in one cut). By AI agents, Wed Nov 11 2026. No macro, syntax, notation, axiom, sorry.
-/
import Derived.Test.YtnmjidkbaohliaaGreatFmtChecked
import GoSem.Claim
import GoSem.ClaimJoined
import GoSem.ClaimMapViews
import Derived.JoinedTies
import Derived.KernelRfl
namespace Go.Proofs.YtnmjidkbaohliaaGreatFmt
/- THE CELL 'sum', in the pinned program and in every row, IS THE sha256 OF THE DUMP (.gsa) THAT YtnmjidkbaohliaaGreatFmtProg.lean LOADS. Nothing in Lean hashes anything: it is a label: what it is worth is what the hold of that sum in a sandbox is worth. -/
noncomputable def Tryz.pinned : Pinned := { name := "ytnmjidkbaohliaagreatfmt", sum := "e3698dd33a21445e0e507c1cf2af8dce74e2f8ca5bb2141b8082fb9b8ebece3c", checked := Tryz.checked }
namespace Rows
def none {H : Type} : Left H := { results := [], args := [] }

/-- 'n005_113.FnAsStringTable': WHATEVER THE INPUT: true; the input reads as it did. -/
def fnAsStringTableSpec : ChangeSpec := { name := "fnAsStringTable", fn := fun _ => fun
  | [d1, d2, d3] => { results := [.lit (.bool true)], args := [d1, d2, d3] }
  | _ => none }
def fnAsStringTableRow : OpenClaim := { program := "ytnmjidkbaohliaagreatfmt", sum := "e3698dd33a21445e0e507c1cf2af8dce74e2f8ca5bb2141b8082fb9b8ebece3c", func := "github.com/yuin/gopher-lua/n005_113.FnAsStringTable", spec := "fnAsStringTable", stops := ["fmt.Sprintf, its operands' methods called", "fmt.Sprint"], unfollowed := true, recurses := true, apart := false }
/-- NO THEOREM (fmt's text is open here; it may be false): for the released tool's asking of the row's closed facts alone. THE STATEMENT IS 'FnAsStringTableToldSaid' (YtnmjidkbaohliaaGreatFmtCards.lean). -/
def FnAsStringTableFormAsk : Prop := fnAsStringTableRow.holds Tryz.pinned (OpenSpec.ofChange fnAsStringTableSpec)

/-- ITS FALSE NEIGHBOUR: 'it returns false'. Refute it at one input. -/
def fnAsStringTableWrong : ChangeSpec := { name := "fnAsStringTable", fn := fun _ => fun
  | [d1, d2, d3] => { results := [.lit (.bool false)], args := [d1, d2, d3] }
  | _ => none }
def FnAsStringTableWrongFormAsk : Prop := fnAsStringTableRow.holds Tryz.pinned (OpenSpec.ofChange fnAsStringTableWrong)

/-- 'n005_113.FnAsStringAgreesWithCanConv': WHATEVER THE INPUT: true; the input reads as it did. -/
def fnAsStringAgreesWithCanConvSpec : ChangeSpec := { name := "fnAsStringAgreesWithCanConv", fn := fun _ => fun
  | [d1, d2, d3] => { results := [.lit (.bool true)], args := [d1, d2, d3] }
  | _ => none }
def fnAsStringAgreesWithCanConvRow : OpenClaim := { program := "ytnmjidkbaohliaagreatfmt", sum := "e3698dd33a21445e0e507c1cf2af8dce74e2f8ca5bb2141b8082fb9b8ebece3c", func := "github.com/yuin/gopher-lua/n005_113.FnAsStringAgreesWithCanConv", spec := "fnAsStringAgreesWithCanConv", stops := ["fmt.Sprintf, its operands' methods called", "fmt.Sprint"], unfollowed := true, recurses := true, apart := false }
/-- NO THEOREM (fmt's text is open here; it may be false): for the released tool's asking of the row's closed facts alone. THE STATEMENT IS 'FnAsStringAgreesWithCanConvToldSaid' (YtnmjidkbaohliaaGreatFmtCards.lean). -/
def FnAsStringAgreesWithCanConvFormAsk : Prop := fnAsStringAgreesWithCanConvRow.holds Tryz.pinned (OpenSpec.ofChange fnAsStringAgreesWithCanConvSpec)

/-- ITS FALSE NEIGHBOUR: 'it returns false'. Refute it at one input. -/
def fnAsStringAgreesWithCanConvWrong : ChangeSpec := { name := "fnAsStringAgreesWithCanConv", fn := fun _ => fun
  | [d1, d2, d3] => { results := [.lit (.bool false)], args := [d1, d2, d3] }
  | _ => none }
def FnAsStringAgreesWithCanConvWrongFormAsk : Prop := fnAsStringAgreesWithCanConvRow.holds Tryz.pinned (OpenSpec.ofChange fnAsStringAgreesWithCanConvWrong)

/-- 'n005_55.FnSetUpvalueSeenBySharingClosure': WHATEVER THE INPUT: true; the input reads as it did. -/
def fnSetUpvalueSeenBySharingClosureSpec : ChangeSpec := { name := "fnSetUpvalueSeenBySharingClosure", fn := fun _ => fun
  | [d1, d2, d3, d4] => { results := [.lit (.bool true)], args := [d1, d2, d3, d4] }
  | _ => none }
def fnSetUpvalueSeenBySharingClosureRow : OpenClaim := { program := "ytnmjidkbaohliaagreatfmt", sum := "e3698dd33a21445e0e507c1cf2af8dce74e2f8ca5bb2141b8082fb9b8ebece3c", func := "github.com/yuin/gopher-lua/n005_55.FnSetUpvalueSeenBySharingClosure", spec := "fnSetUpvalueSeenBySharingClosure", stops := ["fmt.Sprintf, its operands' methods called", "fmt.Sprint"], unfollowed := true, recurses := true, apart := false }
/-- NO THEOREM (fmt's text is open here; it may be false): for the released tool's asking of the row's closed facts alone. THE STATEMENT IS 'FnSetUpvalueSeenBySharingClosureToldSaid' (YtnmjidkbaohliaaGreatFmtCards.lean). -/
def FnSetUpvalueSeenBySharingClosureFormAsk : Prop := fnSetUpvalueSeenBySharingClosureRow.holds Tryz.pinned (OpenSpec.ofChange fnSetUpvalueSeenBySharingClosureSpec)

/-- ITS FALSE NEIGHBOUR: 'it returns false'. Refute it at one input. -/
def fnSetUpvalueSeenBySharingClosureWrong : ChangeSpec := { name := "fnSetUpvalueSeenBySharingClosure", fn := fun _ => fun
  | [d1, d2, d3, d4] => { results := [.lit (.bool false)], args := [d1, d2, d3, d4] }
  | _ => none }
def FnSetUpvalueSeenBySharingClosureWrongFormAsk : Prop := fnSetUpvalueSeenBySharingClosureRow.holds Tryz.pinned (OpenSpec.ofChange fnSetUpvalueSeenBySharingClosureWrong)

/-- 'n005_158.FnRemoveCallerFrameDeletesCallerSlot': WHATEVER THE INPUT: true; the input reads as it did. -/
def fnRemoveCallerFrameDeletesCallerSlotSpec : ChangeSpec := { name := "fnRemoveCallerFrameDeletesCallerSlot", fn := fun _ => fun
  | [d1, d2, d3] => { results := [.lit (.bool true)], args := [d1, d2, d3] }
  | _ => none }
def fnRemoveCallerFrameDeletesCallerSlotRow : OpenClaim := { program := "ytnmjidkbaohliaagreatfmt", sum := "e3698dd33a21445e0e507c1cf2af8dce74e2f8ca5bb2141b8082fb9b8ebece3c", func := "github.com/yuin/gopher-lua/n005_158.FnRemoveCallerFrameDeletesCallerSlot", spec := "fnRemoveCallerFrameDeletesCallerSlot", stops := ["fmt.Sprintf, its operands' methods called", "fmt.Sprint"], unfollowed := true, recurses := true, apart := false }
/-- NO THEOREM (fmt's text is open here; it may be false): for the released tool's asking of the row's closed facts alone. THE STATEMENT IS 'FnRemoveCallerFrameDeletesCallerSlotToldSaid' (YtnmjidkbaohliaaGreatFmtCards.lean). -/
def FnRemoveCallerFrameDeletesCallerSlotFormAsk : Prop := fnRemoveCallerFrameDeletesCallerSlotRow.holds Tryz.pinned (OpenSpec.ofChange fnRemoveCallerFrameDeletesCallerSlotSpec)

/-- ITS FALSE NEIGHBOUR: 'it returns false'. Refute it at one input. -/
def fnRemoveCallerFrameDeletesCallerSlotWrong : ChangeSpec := { name := "fnRemoveCallerFrameDeletesCallerSlot", fn := fun _ => fun
  | [d1, d2, d3] => { results := [.lit (.bool false)], args := [d1, d2, d3] }
  | _ => none }
def FnRemoveCallerFrameDeletesCallerSlotWrongFormAsk : Prop := fnRemoveCallerFrameDeletesCallerSlotRow.holds Tryz.pinned (OpenSpec.ofChange fnRemoveCallerFrameDeletesCallerSlotWrong)

/-- 'n005_158.FnRemoveCallerFrameCollapsesTailCalls': WHATEVER THE INPUT: true; the input reads as it did. -/
def fnRemoveCallerFrameCollapsesTailCallsSpec : ChangeSpec := { name := "fnRemoveCallerFrameCollapsesTailCalls", fn := fun _ => fun
  | [d1, d2, d3] => { results := [.lit (.bool true)], args := [d1, d2, d3] }
  | _ => none }
def fnRemoveCallerFrameCollapsesTailCallsRow : OpenClaim := { program := "ytnmjidkbaohliaagreatfmt", sum := "e3698dd33a21445e0e507c1cf2af8dce74e2f8ca5bb2141b8082fb9b8ebece3c", func := "github.com/yuin/gopher-lua/n005_158.FnRemoveCallerFrameCollapsesTailCalls", spec := "fnRemoveCallerFrameCollapsesTailCalls", stops := ["fmt.Sprintf, its operands' methods called", "fmt.Sprint"], unfollowed := true, recurses := true, apart := false }
/-- NO THEOREM (fmt's text is open here; it may be false): for the released tool's asking of the row's closed facts alone. THE STATEMENT IS 'FnRemoveCallerFrameCollapsesTailCallsToldSaid' (YtnmjidkbaohliaaGreatFmtCards.lean). -/
def FnRemoveCallerFrameCollapsesTailCallsFormAsk : Prop := fnRemoveCallerFrameCollapsesTailCallsRow.holds Tryz.pinned (OpenSpec.ofChange fnRemoveCallerFrameCollapsesTailCallsSpec)

/-- ITS FALSE NEIGHBOUR: 'it returns false'. Refute it at one input. -/
def fnRemoveCallerFrameCollapsesTailCallsWrong : ChangeSpec := { name := "fnRemoveCallerFrameCollapsesTailCalls", fn := fun _ => fun
  | [d1, d2, d3] => { results := [.lit (.bool false)], args := [d1, d2, d3] }
  | _ => none }
def FnRemoveCallerFrameCollapsesTailCallsWrongFormAsk : Prop := fnRemoveCallerFrameCollapsesTailCallsRow.holds Tryz.pinned (OpenSpec.ofChange fnRemoveCallerFrameCollapsesTailCallsWrong)

/-- 'n005_55.FnSetLocalWritesExactlyOneRegister': WHATEVER THE INPUT: true; the input reads as it did. -/
def fnSetLocalWritesExactlyOneRegisterSpec : ChangeSpec := { name := "fnSetLocalWritesExactlyOneRegister", fn := fun _ => fun
  | [d1, d2, d3, d4, d5] => { results := [.lit (.bool true)], args := [d1, d2, d3, d4, d5] }
  | _ => none }
def fnSetLocalWritesExactlyOneRegisterRow : OpenClaim := { program := "ytnmjidkbaohliaagreatfmt", sum := "e3698dd33a21445e0e507c1cf2af8dce74e2f8ca5bb2141b8082fb9b8ebece3c", func := "github.com/yuin/gopher-lua/n005_55.FnSetLocalWritesExactlyOneRegister", spec := "fnSetLocalWritesExactlyOneRegister", stops := ["fmt.Sprintf, its operands' methods called", "fmt.Sprint"], unfollowed := true, recurses := true, apart := false }
/-- NO THEOREM (fmt's text is open here; it may be false): for the released tool's asking of the row's closed facts alone. THE STATEMENT IS 'FnSetLocalWritesExactlyOneRegisterToldSaid' (YtnmjidkbaohliaaGreatFmtCards.lean). -/
def FnSetLocalWritesExactlyOneRegisterFormAsk : Prop := fnSetLocalWritesExactlyOneRegisterRow.holds Tryz.pinned (OpenSpec.ofChange fnSetLocalWritesExactlyOneRegisterSpec)

/-- ITS FALSE NEIGHBOUR: 'it returns false'. Refute it at one input. -/
def fnSetLocalWritesExactlyOneRegisterWrong : ChangeSpec := { name := "fnSetLocalWritesExactlyOneRegister", fn := fun _ => fun
  | [d1, d2, d3, d4, d5] => { results := [.lit (.bool false)], args := [d1, d2, d3, d4, d5] }
  | _ => none }
def FnSetLocalWritesExactlyOneRegisterWrongFormAsk : Prop := fnSetLocalWritesExactlyOneRegisterRow.holds Tryz.pinned (OpenSpec.ofChange fnSetLocalWritesExactlyOneRegisterWrong)

/-- 'n005_55.FnSetLocalRoundTripAndUndo': WHATEVER THE INPUT: true; the input reads as it did. -/
def fnSetLocalRoundTripAndUndoSpec : ChangeSpec := { name := "fnSetLocalRoundTripAndUndo", fn := fun _ => fun
  | [d1, d2, d3, d4, d5] => { results := [.lit (.bool true)], args := [d1, d2, d3, d4, d5] }
  | _ => none }
def fnSetLocalRoundTripAndUndoRow : OpenClaim := { program := "ytnmjidkbaohliaagreatfmt", sum := "e3698dd33a21445e0e507c1cf2af8dce74e2f8ca5bb2141b8082fb9b8ebece3c", func := "github.com/yuin/gopher-lua/n005_55.FnSetLocalRoundTripAndUndo", spec := "fnSetLocalRoundTripAndUndo", stops := ["fmt.Sprintf, its operands' methods called", "fmt.Sprint"], unfollowed := true, recurses := true, apart := false }
/-- NO THEOREM (fmt's text is open here; it may be false): for the released tool's asking of the row's closed facts alone. THE STATEMENT IS 'FnSetLocalRoundTripAndUndoToldSaid' (YtnmjidkbaohliaaGreatFmtCards.lean). -/
def FnSetLocalRoundTripAndUndoFormAsk : Prop := fnSetLocalRoundTripAndUndoRow.holds Tryz.pinned (OpenSpec.ofChange fnSetLocalRoundTripAndUndoSpec)

/-- ITS FALSE NEIGHBOUR: 'it returns false'. Refute it at one input. -/
def fnSetLocalRoundTripAndUndoWrong : ChangeSpec := { name := "fnSetLocalRoundTripAndUndo", fn := fun _ => fun
  | [d1, d2, d3, d4, d5] => { results := [.lit (.bool false)], args := [d1, d2, d3, d4, d5] }
  | _ => none }
def FnSetLocalRoundTripAndUndoWrongFormAsk : Prop := fnSetLocalRoundTripAndUndoRow.holds Tryz.pinned (OpenSpec.ofChange fnSetLocalRoundTripAndUndoWrong)

end Rows
end Go.Proofs.YtnmjidkbaohliaaGreatFmt
