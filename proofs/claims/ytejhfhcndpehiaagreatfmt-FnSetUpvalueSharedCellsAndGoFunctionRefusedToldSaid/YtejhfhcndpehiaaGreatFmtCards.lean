/-
  DERIVED. GIVEN WITH THE SEED: THE CARDS: each row of YtejhfhcndpehiaaGreatFmtRows.lean that lists a variable, with what it lists TIED to the program's text (the seventh form; the later family's looks); each row that meets fmt, with fmt's text TOLD by the authors' own Lean function (tested against real Go, not proved from fmt's source: count such statements apart). THE CARD IS WHAT COUNTS. Prove the row's statement (the work); the ties are given (YtejhfhcndpehiaaGreatFmtTie.lean); close each card by the builder's one call (the guide's Derived/Test/ToyasCard.lean, 'card_holds'). Laid BY PROGRAM, IN A SANDBOX (cutbox-door.mjs). By AI agents, Wed Nov 11 2026. No macro, syntax, notation, axiom, sorry.
-/
import Derived.Test.YtejhfhcndpehiaaGreatFmtRows
import GoSem.ClaimSeven
namespace Go.Proofs.YtejhfhcndpehiaaGreatFmt
namespace Rows

/-- THE TOLD CARD OF 'n005_62.FnToThreadSignAgree'. -/
def fnToThreadSignAgreeCard : Claim7 := { stood := { row := fnToThreadSignAgreeRow, standIns := [], harness := (true, "e3bb579df22c41a07457a09190204a40a9ff4b9e37dc451548b91aaf9961161a"), looks := true }, told := true, goes := false }
def FnToThreadSignAgreeToldSaid : Prop := Claim7.holds Tryz.pinned (.plain (OpenSpec.ofChange fnToThreadSignAgreeSpec)) fnToThreadSignAgreeCard
/-- ITS FALSE NEIGHBOUR. Refute it at one input. -/
def FnToThreadSignAgreeToldWrongFalsely : Prop := Claim7.holds Tryz.pinned (.plain (OpenSpec.ofChange fnToThreadSignAgreeWrong)) fnToThreadSignAgreeCard

/-- THE TOLD CARD OF 'n005_62.FnToTableSignAgree'. -/
def fnToTableSignAgreeCard : Claim7 := { stood := { row := fnToTableSignAgreeRow, standIns := [], harness := (true, "e3bb579df22c41a07457a09190204a40a9ff4b9e37dc451548b91aaf9961161a"), looks := true }, told := true, goes := false }
def FnToTableSignAgreeToldSaid : Prop := Claim7.holds Tryz.pinned (.plain (OpenSpec.ofChange fnToTableSignAgreeSpec)) fnToTableSignAgreeCard
/-- ITS FALSE NEIGHBOUR. Refute it at one input. -/
def FnToTableSignAgreeToldWrongFalsely : Prop := Claim7.holds Tryz.pinned (.plain (OpenSpec.ofChange fnToTableSignAgreeWrong)) fnToTableSignAgreeCard

/-- THE TOLD CARD OF 'n005_62.FnToFunctionSignAgree'. -/
def fnToFunctionSignAgreeCard : Claim7 := { stood := { row := fnToFunctionSignAgreeRow, standIns := [], harness := (true, "e3bb579df22c41a07457a09190204a40a9ff4b9e37dc451548b91aaf9961161a"), looks := true }, told := true, goes := false }
def FnToFunctionSignAgreeToldSaid : Prop := Claim7.holds Tryz.pinned (.plain (OpenSpec.ofChange fnToFunctionSignAgreeSpec)) fnToFunctionSignAgreeCard
/-- ITS FALSE NEIGHBOUR. Refute it at one input. -/
def FnToFunctionSignAgreeToldWrongFalsely : Prop := Claim7.holds Tryz.pinned (.plain (OpenSpec.ofChange fnToFunctionSignAgreeWrong)) fnToFunctionSignAgreeCard

/-- THE TOLD CARD OF 'n005_62.FnToUserDataSignAgree'. -/
def fnToUserDataSignAgreeCard : Claim7 := { stood := { row := fnToUserDataSignAgreeRow, standIns := [], harness := (true, "e3bb579df22c41a07457a09190204a40a9ff4b9e37dc451548b91aaf9961161a"), looks := true }, told := true, goes := false }
def FnToUserDataSignAgreeToldSaid : Prop := Claim7.holds Tryz.pinned (.plain (OpenSpec.ofChange fnToUserDataSignAgreeSpec)) fnToUserDataSignAgreeCard
/-- ITS FALSE NEIGHBOUR. Refute it at one input. -/
def FnToUserDataSignAgreeToldWrongFalsely : Prop := Claim7.holds Tryz.pinned (.plain (OpenSpec.ofChange fnToUserDataSignAgreeWrong)) fnToUserDataSignAgreeCard

/-- THE TOLD CARD OF 'n005_62.FnToThreadWhole'. -/
def fnToThreadWholeCard : Claim7 := { stood := { row := fnToThreadWholeRow, standIns := [], harness := (true, "e3bb579df22c41a07457a09190204a40a9ff4b9e37dc451548b91aaf9961161a"), looks := true }, told := true, goes := false }
def FnToThreadWholeToldSaid : Prop := Claim7.holds Tryz.pinned (.plain (OpenSpec.ofChange fnToThreadWholeSpec)) fnToThreadWholeCard
/-- ITS FALSE NEIGHBOUR. Refute it at one input. -/
def FnToThreadWholeToldWrongFalsely : Prop := Claim7.holds Tryz.pinned (.plain (OpenSpec.ofChange fnToThreadWholeWrong)) fnToThreadWholeCard

/-- THE TOLD CARD OF 'n005_62.FnToFunctionWhole'. -/
def fnToFunctionWholeCard : Claim7 := { stood := { row := fnToFunctionWholeRow, standIns := [], harness := (true, "e3bb579df22c41a07457a09190204a40a9ff4b9e37dc451548b91aaf9961161a"), looks := true }, told := true, goes := false }
def FnToFunctionWholeToldSaid : Prop := Claim7.holds Tryz.pinned (.plain (OpenSpec.ofChange fnToFunctionWholeSpec)) fnToFunctionWholeCard
/-- ITS FALSE NEIGHBOUR. Refute it at one input. -/
def FnToFunctionWholeToldWrongFalsely : Prop := Claim7.holds Tryz.pinned (.plain (OpenSpec.ofChange fnToFunctionWholeWrong)) fnToFunctionWholeCard

/-- THE TOLD CARD OF 'n005_62.FnToUserDataWhole'. -/
def fnToUserDataWholeCard : Claim7 := { stood := { row := fnToUserDataWholeRow, standIns := [], harness := (true, "e3bb579df22c41a07457a09190204a40a9ff4b9e37dc451548b91aaf9961161a"), looks := true }, told := true, goes := false }
def FnToUserDataWholeToldSaid : Prop := Claim7.holds Tryz.pinned (.plain (OpenSpec.ofChange fnToUserDataWholeSpec)) fnToUserDataWholeCard
/-- ITS FALSE NEIGHBOUR. Refute it at one input. -/
def FnToUserDataWholeToldWrongFalsely : Prop := Claim7.holds Tryz.pinned (.plain (OpenSpec.ofChange fnToUserDataWholeWrong)) fnToUserDataWholeCard

/-- THE TOLD CARD OF 'n005_62.FnToTableWhole'. -/
def fnToTableWholeCard : Claim7 := { stood := { row := fnToTableWholeRow, standIns := [], harness := (true, "e3bb579df22c41a07457a09190204a40a9ff4b9e37dc451548b91aaf9961161a"), looks := true }, told := true, goes := false }
def FnToTableWholeToldSaid : Prop := Claim7.holds Tryz.pinned (.plain (OpenSpec.ofChange fnToTableWholeSpec)) fnToTableWholeCard
/-- ITS FALSE NEIGHBOUR. Refute it at one input. -/
def FnToTableWholeToldWrongFalsely : Prop := Claim7.holds Tryz.pinned (.plain (OpenSpec.ofChange fnToTableWholeWrong)) fnToTableWholeCard

/-- THE TOLD CARD OF 'n005_150.FnSetUpvalueExactCaseTable'. -/
def fnSetUpvalueExactCaseTableCard : Claim7 := { stood := { row := fnSetUpvalueExactCaseTableRow, standIns := [], harness := (true, "e3bb579df22c41a07457a09190204a40a9ff4b9e37dc451548b91aaf9961161a"), looks := true }, told := true, goes := false }
def FnSetUpvalueExactCaseTableToldSaid : Prop := Claim7.holds Tryz.pinned (.plain (OpenSpec.ofChange fnSetUpvalueExactCaseTableSpec)) fnSetUpvalueExactCaseTableCard
/-- ITS FALSE NEIGHBOUR. Refute it at one input. -/
def FnSetUpvalueExactCaseTableToldWrongFalsely : Prop := Claim7.holds Tryz.pinned (.plain (OpenSpec.ofChange fnSetUpvalueExactCaseTableWrong)) fnSetUpvalueExactCaseTableCard

/-- THE TOLD CARD OF 'n005_150.FnSetUpvalueSharedCellsAndGoFunctionRefused'. -/
def fnSetUpvalueSharedCellsAndGoFunctionRefusedCard : Claim7 := { stood := { row := fnSetUpvalueSharedCellsAndGoFunctionRefusedRow, standIns := [], harness := (true, "e3bb579df22c41a07457a09190204a40a9ff4b9e37dc451548b91aaf9961161a"), looks := true }, told := true, goes := false }
def FnSetUpvalueSharedCellsAndGoFunctionRefusedToldSaid : Prop := Claim7.holds Tryz.pinned (.plain (OpenSpec.ofChange fnSetUpvalueSharedCellsAndGoFunctionRefusedSpec)) fnSetUpvalueSharedCellsAndGoFunctionRefusedCard
/-- ITS FALSE NEIGHBOUR. Refute it at one input. -/
def FnSetUpvalueSharedCellsAndGoFunctionRefusedToldWrongFalsely : Prop := Claim7.holds Tryz.pinned (.plain (OpenSpec.ofChange fnSetUpvalueSharedCellsAndGoFunctionRefusedWrong)) fnSetUpvalueSharedCellsAndGoFunctionRefusedCard
end Rows
end Go.Proofs.YtejhfhcndpehiaaGreatFmt
