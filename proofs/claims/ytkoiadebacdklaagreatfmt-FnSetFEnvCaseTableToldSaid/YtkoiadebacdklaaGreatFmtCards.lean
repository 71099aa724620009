/-
  DERIVED. GIVEN WITH THE SEED: THE CARDS: each row of YtkoiadebacdklaaGreatFmtRows.lean that lists a variable, with what it lists TIED to the program's text (the seventh form; the later family's looks); each row that meets fmt, with fmt's text TOLD by the authors' own Lean function (tested against real Go, not proved from fmt's source: count such statements apart). THE CARD IS WHAT COUNTS. Prove the row's statement (the work); the ties are given (YtkoiadebacdklaaGreatFmtTie.lean); close each card by the builder's one call (the guide's Derived/Test/ToyasCard.lean, 'card_holds'). Laid BY PROGRAM, IN A SANDBOX (cutbox-door.mjs). By AI agents, Wed Nov 11 2026. No macro, syntax, notation, axiom, sorry.
-/
import Derived.Test.YtkoiadebacdklaaGreatFmtRows
import GoSem.ClaimSeven
namespace Go.Proofs.YtkoiadebacdklaaGreatFmt
namespace Rows

/-- THE TOLD AND TIED CARD OF 'n005_143.FnRaiseErrorPushesFormatVerbatim'. -/
def fnRaiseErrorPushesFormatVerbatimCard : Claim7 := { stood := { row := fnRaiseErrorPushesFormatVerbatimRow, standIns := [], harness := (true, "0aff72ce29e18e0af0345abb9aa60270cb3cb8caa09e7b82a987b51cfadcdae4"), looks := true }, told := true, laidByText := true, laidKinds := [.data, .data, .widerDeep, .widerDeep, .data, .data, .data, .data, .data, .data, .sentinel, .sentinel, .pinned, .pinned, .pinned], laidTests := true, laidLooks := .later, goes := false }
def FnRaiseErrorPushesFormatVerbatimToldSaid : Prop := Claim7.holds Tryz.pinned (.plain (OpenSpec.ofChange fnRaiseErrorPushesFormatVerbatimSpec)) fnRaiseErrorPushesFormatVerbatimCard
/-- ITS FALSE NEIGHBOUR. Refute it at one input. -/
def FnRaiseErrorPushesFormatVerbatimToldWrongFalsely : Prop := Claim7.holds Tryz.pinned (.plain (OpenSpec.ofChange fnRaiseErrorPushesFormatVerbatimWrong)) fnRaiseErrorPushesFormatVerbatimCard

/-- THE TOLD CARD OF 'n005_143.FnFindLocalInnermostFrameSpec'. -/
def fnFindLocalInnermostFrameSpecCard : Claim7 := { stood := { row := fnFindLocalInnermostFrameSpecRow, standIns := [], harness := (true, "0aff72ce29e18e0af0345abb9aa60270cb3cb8caa09e7b82a987b51cfadcdae4"), looks := true }, told := true, goes := false }
def FnFindLocalInnermostFrameSpecToldSaid : Prop := Claim7.holds Tryz.pinned (.plain (OpenSpec.ofChange fnFindLocalInnermostFrameSpecSpec)) fnFindLocalInnermostFrameSpecCard
/-- ITS FALSE NEIGHBOUR. Refute it at one input. -/
def FnFindLocalInnermostFrameSpecToldWrongFalsely : Prop := Claim7.holds Tryz.pinned (.plain (OpenSpec.ofChange fnFindLocalInnermostFrameSpecWrong)) fnFindLocalInnermostFrameSpecCard

/-- THE TOLD AND TIED CARD OF 'n005_143.FnRaiseErrorClosesUpvaluesUnlessHandled'. -/
def fnRaiseErrorClosesUpvaluesUnlessHandledCard : Claim7 := { stood := { row := fnRaiseErrorClosesUpvaluesUnlessHandledRow, standIns := [], harness := (true, "0aff72ce29e18e0af0345abb9aa60270cb3cb8caa09e7b82a987b51cfadcdae4"), looks := true }, told := true, laidByText := true, laidKinds := [.data, .data, .widerDeep, .widerDeep, .data, .data, .data, .data, .data, .data, .sentinel, .sentinel, .pinned, .pinned, .pinned], laidTests := true, laidLooks := .later, goes := false }
def FnRaiseErrorClosesUpvaluesUnlessHandledToldSaid : Prop := Claim7.holds Tryz.pinned (.plain (OpenSpec.ofChange fnRaiseErrorClosesUpvaluesUnlessHandledSpec)) fnRaiseErrorClosesUpvaluesUnlessHandledCard
/-- ITS FALSE NEIGHBOUR. Refute it at one input. -/
def FnRaiseErrorClosesUpvaluesUnlessHandledToldWrongFalsely : Prop := Claim7.holds Tryz.pinned (.plain (OpenSpec.ofChange fnRaiseErrorClosesUpvaluesUnlessHandledWrong)) fnRaiseErrorClosesUpvaluesUnlessHandledCard

/-- THE TOLD CARD OF 'n005_143.FnCloseAllUpvaluesKeepsBelowLowestLuaFrame'. -/
def fnCloseAllUpvaluesKeepsBelowLowestLuaFrameCard : Claim7 := { stood := { row := fnCloseAllUpvaluesKeepsBelowLowestLuaFrameRow, standIns := [], harness := (true, "0aff72ce29e18e0af0345abb9aa60270cb3cb8caa09e7b82a987b51cfadcdae4"), looks := true }, told := true, goes := false }
def FnCloseAllUpvaluesKeepsBelowLowestLuaFrameToldSaid : Prop := Claim7.holds Tryz.pinned (.plain (OpenSpec.ofChange fnCloseAllUpvaluesKeepsBelowLowestLuaFrameSpec)) fnCloseAllUpvaluesKeepsBelowLowestLuaFrameCard
/-- ITS FALSE NEIGHBOUR. Refute it at one input. -/
def FnCloseAllUpvaluesKeepsBelowLowestLuaFrameToldWrongFalsely : Prop := Claim7.holds Tryz.pinned (.plain (OpenSpec.ofChange fnCloseAllUpvaluesKeepsBelowLowestLuaFrameWrong)) fnCloseAllUpvaluesKeepsBelowLowestLuaFrameCard

/-- THE TOLD CARD OF 'n005_143.FnCloseAllUpvaluesIsIdempotent'. -/
def fnCloseAllUpvaluesIsIdempotentCard : Claim7 := { stood := { row := fnCloseAllUpvaluesIsIdempotentRow, standIns := [], harness := (true, "0aff72ce29e18e0af0345abb9aa60270cb3cb8caa09e7b82a987b51cfadcdae4"), looks := true }, told := true, goes := false }
def FnCloseAllUpvaluesIsIdempotentToldSaid : Prop := Claim7.holds Tryz.pinned (.plain (OpenSpec.ofChange fnCloseAllUpvaluesIsIdempotentSpec)) fnCloseAllUpvaluesIsIdempotentCard
/-- ITS FALSE NEIGHBOUR. Refute it at one input. -/
def FnCloseAllUpvaluesIsIdempotentToldWrongFalsely : Prop := Claim7.holds Tryz.pinned (.plain (OpenSpec.ofChange fnCloseAllUpvaluesIsIdempotentWrong)) fnCloseAllUpvaluesIsIdempotentCard

/-- THE TOLD AND TIED CARD OF 'n005_61.FnSorterInsertionSortSorts'. -/
def fnSorterInsertionSortSortsCard : Claim7 := { stood := { row := fnSorterInsertionSortSortsRow, standIns := [], harness := (true, "0aff72ce29e18e0af0345abb9aa60270cb3cb8caa09e7b82a987b51cfadcdae4"), looks := true }, told := true, laidByText := true, laidKinds := [.data, .data, .widerDeep, .widerDeep, .data, .data, .data, .data, .data, .data, .sentinel, .sentinel, .pinned, .pinned, .pinned], laidTests := true, laidLooks := .later, goes := false }
def FnSorterInsertionSortSortsToldSaid : Prop := Claim7.holds Tryz.pinned (.plain (OpenSpec.ofChange fnSorterInsertionSortSortsSpec)) fnSorterInsertionSortSortsCard
/-- ITS FALSE NEIGHBOUR. Refute it at one input. -/
def FnSorterInsertionSortSortsToldWrongFalsely : Prop := Claim7.holds Tryz.pinned (.plain (OpenSpec.ofChange fnSorterInsertionSortSortsWrong)) fnSorterInsertionSortSortsCard

/-- THE TOLD AND TIED CARD OF 'n005_150.FnSetFEnvLastWriteWinsSeenByGetFEnv'. -/
def fnSetFEnvLastWriteWinsSeenByGetFEnvCard : Claim7 := { stood := { row := fnSetFEnvLastWriteWinsSeenByGetFEnvRow, standIns := [], harness := (true, "0aff72ce29e18e0af0345abb9aa60270cb3cb8caa09e7b82a987b51cfadcdae4"), looks := true }, told := true, laidByText := true, laidKinds := [.data, .data, .widerDeep, .widerDeep, .data, .data, .data, .data, .data, .data, .sentinel, .sentinel, .pinned, .pinned, .pinned], laidTests := true, laidLooks := .later, goes := false }
def FnSetFEnvLastWriteWinsSeenByGetFEnvToldSaid : Prop := Claim7.holds Tryz.pinned (.plain (OpenSpec.ofChange fnSetFEnvLastWriteWinsSeenByGetFEnvSpec)) fnSetFEnvLastWriteWinsSeenByGetFEnvCard
/-- ITS FALSE NEIGHBOUR. Refute it at one input. -/
def FnSetFEnvLastWriteWinsSeenByGetFEnvToldWrongFalsely : Prop := Claim7.holds Tryz.pinned (.plain (OpenSpec.ofChange fnSetFEnvLastWriteWinsSeenByGetFEnvWrong)) fnSetFEnvLastWriteWinsSeenByGetFEnvCard

/-- THE TOLD AND TIED CARD OF 'n005_150.FnSetFEnvCaseTable'. -/
def fnSetFEnvCaseTableCard : Claim7 := { stood := { row := fnSetFEnvCaseTableRow, standIns := [], harness := (true, "0aff72ce29e18e0af0345abb9aa60270cb3cb8caa09e7b82a987b51cfadcdae4"), looks := true }, told := true, laidByText := true, laidKinds := [.data, .data, .widerDeep, .widerDeep, .data, .data, .data, .data, .data, .data, .sentinel, .sentinel, .pinned, .pinned, .pinned], laidTests := true, laidLooks := .later, goes := false }
def FnSetFEnvCaseTableToldSaid : Prop := Claim7.holds Tryz.pinned (.plain (OpenSpec.ofChange fnSetFEnvCaseTableSpec)) fnSetFEnvCaseTableCard
/-- ITS FALSE NEIGHBOUR. Refute it at one input. -/
def FnSetFEnvCaseTableToldWrongFalsely : Prop := Claim7.holds Tryz.pinned (.plain (OpenSpec.ofChange fnSetFEnvCaseTableWrong)) fnSetFEnvCaseTableCard
end Rows
end Go.Proofs.YtkoiadebacdklaaGreatFmt
