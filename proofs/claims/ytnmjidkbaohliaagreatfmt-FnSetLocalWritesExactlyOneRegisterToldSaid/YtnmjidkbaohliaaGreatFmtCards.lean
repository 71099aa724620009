/-
  DERIVED. GIVEN WITH THE SEED: THE CARDS: each row of YtnmjidkbaohliaaGreatFmtRows.lean that lists a variable, with what it lists TIED to the program's text (the seventh form; the later family's looks); each row that meets fmt, with fmt's text TOLD by the authors' own Lean function (tested against real Go, not proved from fmt's source: count such statements apart). THE CARD IS WHAT COUNTS. Prove the row's statement (the work); the ties are given (YtnmjidkbaohliaaGreatFmtTie.lean); close each card by the builder's one call (the guide's Derived/Test/ToyasCard.lean, 'card_holds'). Laid BY PROGRAM, IN A SANDBOX (cutbox-door.mjs). By AI agents, Wed Nov 11 2026. No macro, syntax, notation, axiom, sorry.
-/
import Derived.Test.YtnmjidkbaohliaaGreatFmtRows
import GoSem.ClaimSeven
namespace Go.Proofs.YtnmjidkbaohliaaGreatFmt
namespace Rows

/-- THE TOLD CARD OF 'n005_113.FnAsStringTable'. -/
def fnAsStringTableCard : Claim7 := { stood := { row := fnAsStringTableRow, standIns := [], harness := (true, "dcdd145bac332de374c7a94b442cb60af152a7b592273e60eec7632503a6397f"), looks := true }, told := true, goes := false }
def FnAsStringTableToldSaid : Prop := Claim7.holds Tryz.pinned (.plain (OpenSpec.ofChange fnAsStringTableSpec)) fnAsStringTableCard
/-- ITS FALSE NEIGHBOUR. Refute it at one input. -/
def FnAsStringTableToldWrongFalsely : Prop := Claim7.holds Tryz.pinned (.plain (OpenSpec.ofChange fnAsStringTableWrong)) fnAsStringTableCard

/-- THE TOLD CARD OF 'n005_113.FnAsStringAgreesWithCanConv'. -/
def fnAsStringAgreesWithCanConvCard : Claim7 := { stood := { row := fnAsStringAgreesWithCanConvRow, standIns := [], harness := (true, "dcdd145bac332de374c7a94b442cb60af152a7b592273e60eec7632503a6397f"), looks := true }, told := true, goes := false }
def FnAsStringAgreesWithCanConvToldSaid : Prop := Claim7.holds Tryz.pinned (.plain (OpenSpec.ofChange fnAsStringAgreesWithCanConvSpec)) fnAsStringAgreesWithCanConvCard
/-- ITS FALSE NEIGHBOUR. Refute it at one input. -/
def FnAsStringAgreesWithCanConvToldWrongFalsely : Prop := Claim7.holds Tryz.pinned (.plain (OpenSpec.ofChange fnAsStringAgreesWithCanConvWrong)) fnAsStringAgreesWithCanConvCard

/-- THE TOLD CARD OF 'n005_55.FnSetUpvalueSeenBySharingClosure'. -/
def fnSetUpvalueSeenBySharingClosureCard : Claim7 := { stood := { row := fnSetUpvalueSeenBySharingClosureRow, standIns := [], harness := (true, "dcdd145bac332de374c7a94b442cb60af152a7b592273e60eec7632503a6397f"), looks := true }, told := true, goes := false }
def FnSetUpvalueSeenBySharingClosureToldSaid : Prop := Claim7.holds Tryz.pinned (.plain (OpenSpec.ofChange fnSetUpvalueSeenBySharingClosureSpec)) fnSetUpvalueSeenBySharingClosureCard
/-- ITS FALSE NEIGHBOUR. Refute it at one input. -/
def FnSetUpvalueSeenBySharingClosureToldWrongFalsely : Prop := Claim7.holds Tryz.pinned (.plain (OpenSpec.ofChange fnSetUpvalueSeenBySharingClosureWrong)) fnSetUpvalueSeenBySharingClosureCard

/-- THE TOLD CARD OF 'n005_158.FnRemoveCallerFrameDeletesCallerSlot'. -/
def fnRemoveCallerFrameDeletesCallerSlotCard : Claim7 := { stood := { row := fnRemoveCallerFrameDeletesCallerSlotRow, standIns := [], harness := (true, "dcdd145bac332de374c7a94b442cb60af152a7b592273e60eec7632503a6397f"), looks := true }, told := true, goes := false }
def FnRemoveCallerFrameDeletesCallerSlotToldSaid : Prop := Claim7.holds Tryz.pinned (.plain (OpenSpec.ofChange fnRemoveCallerFrameDeletesCallerSlotSpec)) fnRemoveCallerFrameDeletesCallerSlotCard
/-- ITS FALSE NEIGHBOUR. Refute it at one input. -/
def FnRemoveCallerFrameDeletesCallerSlotToldWrongFalsely : Prop := Claim7.holds Tryz.pinned (.plain (OpenSpec.ofChange fnRemoveCallerFrameDeletesCallerSlotWrong)) fnRemoveCallerFrameDeletesCallerSlotCard

/-- THE TOLD CARD OF 'n005_158.FnRemoveCallerFrameCollapsesTailCalls'. -/
def fnRemoveCallerFrameCollapsesTailCallsCard : Claim7 := { stood := { row := fnRemoveCallerFrameCollapsesTailCallsRow, standIns := [], harness := (true, "dcdd145bac332de374c7a94b442cb60af152a7b592273e60eec7632503a6397f"), looks := true }, told := true, goes := false }
def FnRemoveCallerFrameCollapsesTailCallsToldSaid : Prop := Claim7.holds Tryz.pinned (.plain (OpenSpec.ofChange fnRemoveCallerFrameCollapsesTailCallsSpec)) fnRemoveCallerFrameCollapsesTailCallsCard
/-- ITS FALSE NEIGHBOUR. Refute it at one input. -/
def FnRemoveCallerFrameCollapsesTailCallsToldWrongFalsely : Prop := Claim7.holds Tryz.pinned (.plain (OpenSpec.ofChange fnRemoveCallerFrameCollapsesTailCallsWrong)) fnRemoveCallerFrameCollapsesTailCallsCard

/-- THE TOLD CARD OF 'n005_55.FnSetLocalWritesExactlyOneRegister'. -/
def fnSetLocalWritesExactlyOneRegisterCard : Claim7 := { stood := { row := fnSetLocalWritesExactlyOneRegisterRow, standIns := [], harness := (true, "dcdd145bac332de374c7a94b442cb60af152a7b592273e60eec7632503a6397f"), looks := true }, told := true, goes := false }
def FnSetLocalWritesExactlyOneRegisterToldSaid : Prop := Claim7.holds Tryz.pinned (.plain (OpenSpec.ofChange fnSetLocalWritesExactlyOneRegisterSpec)) fnSetLocalWritesExactlyOneRegisterCard
/-- ITS FALSE NEIGHBOUR. Refute it at one input. -/
def FnSetLocalWritesExactlyOneRegisterToldWrongFalsely : Prop := Claim7.holds Tryz.pinned (.plain (OpenSpec.ofChange fnSetLocalWritesExactlyOneRegisterWrong)) fnSetLocalWritesExactlyOneRegisterCard

/-- THE TOLD CARD OF 'n005_55.FnSetLocalRoundTripAndUndo'. -/
def fnSetLocalRoundTripAndUndoCard : Claim7 := { stood := { row := fnSetLocalRoundTripAndUndoRow, standIns := [], harness := (true, "dcdd145bac332de374c7a94b442cb60af152a7b592273e60eec7632503a6397f"), looks := true }, told := true, goes := false }
def FnSetLocalRoundTripAndUndoToldSaid : Prop := Claim7.holds Tryz.pinned (.plain (OpenSpec.ofChange fnSetLocalRoundTripAndUndoSpec)) fnSetLocalRoundTripAndUndoCard
/-- ITS FALSE NEIGHBOUR. Refute it at one input. -/
def FnSetLocalRoundTripAndUndoToldWrongFalsely : Prop := Claim7.holds Tryz.pinned (.plain (OpenSpec.ofChange fnSetLocalRoundTripAndUndoWrong)) fnSetLocalRoundTripAndUndoCard
end Rows
end Go.Proofs.YtnmjidkbaohliaaGreatFmt
