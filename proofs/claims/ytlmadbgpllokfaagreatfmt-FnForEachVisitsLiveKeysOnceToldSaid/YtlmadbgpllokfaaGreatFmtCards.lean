/-
  DERIVED. GIVEN WITH THE SEED: THE CARDS: each row of YtlmadbgpllokfaaGreatFmtRows.lean that lists a variable, with what it lists TIED to the program's text (the seventh form; the later family's looks); each row that meets fmt, with fmt's text TOLD by the authors' own Lean function (tested against real Go, not proved from fmt's source: count such statements apart). THE CARD IS WHAT COUNTS. Prove the row's statement (the work); the ties are given (YtlmadbgpllokfaaGreatFmtTie.lean); close each card by the builder's one call (the guide's Derived/Test/ToyasCard.lean, 'card_holds'). Laid BY PROGRAM, IN A SANDBOX (cutbox-door.mjs). By AI agents, Wed Nov 11 2026. No macro, syntax, notation, axiom, sorry.
-/
import Derived.Test.YtlmadbgpllokfaaGreatFmtRows
import GoSem.ClaimSeven
namespace Go.Proofs.YtlmadbgpllokfaaGreatFmt
namespace Rows

/-- THE TOLD AND TIED CARD OF 'n005_150.FnRawGetLastWriteWins'. -/
def fnRawGetLastWriteWinsCard : Claim7 := { stood := { row := fnRawGetLastWriteWinsRow, standIns := [], harness := (true, "51ee891b00f0457097e9e946045ecb56da478fea9e52bb7ae91fea41b52bb3f9"), looks := true }, told := true, laidByText := true, laidKinds := [.data, .data, .widerDeep, .widerDeep, .data, .data, .data, .data, .data, .data, .sentinel, .sentinel, .pinned, .pinned, .pinned], laidTests := true, laidLooks := .later, goes := false }
def FnRawGetLastWriteWinsToldSaid : Prop := Claim7.holds Tryz.pinned (.plain (OpenSpec.ofChange fnRawGetLastWriteWinsSpec)) fnRawGetLastWriteWinsCard
/-- ITS FALSE NEIGHBOUR. Refute it at one input. -/
def FnRawGetLastWriteWinsToldWrongFalsely : Prop := Claim7.holds Tryz.pinned (.plain (OpenSpec.ofChange fnRawGetLastWriteWinsWrong)) fnRawGetLastWriteWinsCard

/-- THE TOLD AND TIED CARD OF 'n005_150.FnRawGetAgreesWithRawGetIntAndZeroSign'. -/
def fnRawGetAgreesWithRawGetIntAndZeroSignCard : Claim7 := { stood := { row := fnRawGetAgreesWithRawGetIntAndZeroSignRow, standIns := [], harness := (true, "51ee891b00f0457097e9e946045ecb56da478fea9e52bb7ae91fea41b52bb3f9"), looks := true }, told := true, laidByText := true, laidKinds := [.data, .data, .widerDeep, .widerDeep, .data, .data, .data, .data, .data, .data, .sentinel, .sentinel, .pinned, .pinned, .pinned], laidTests := true, laidLooks := .later, goes := false }
def FnRawGetAgreesWithRawGetIntAndZeroSignToldSaid : Prop := Claim7.holds Tryz.pinned (.plain (OpenSpec.ofChange fnRawGetAgreesWithRawGetIntAndZeroSignSpec)) fnRawGetAgreesWithRawGetIntAndZeroSignCard
/-- ITS FALSE NEIGHBOUR. Refute it at one input. -/
def FnRawGetAgreesWithRawGetIntAndZeroSignToldWrongFalsely : Prop := Claim7.holds Tryz.pinned (.plain (OpenSpec.ofChange fnRawGetAgreesWithRawGetIntAndZeroSignWrong)) fnRawGetAgreesWithRawGetIntAndZeroSignCard

/-- THE TOLD AND TIED CARD OF 'n005_65.FnSetFieldPlainLastWrite'. -/
def fnSetFieldPlainLastWriteCard : Claim7 := { stood := { row := fnSetFieldPlainLastWriteRow, standIns := [], harness := (true, "51ee891b00f0457097e9e946045ecb56da478fea9e52bb7ae91fea41b52bb3f9"), looks := true }, told := true, laidByText := true, laidKinds := [.data, .data, .widerDeep, .widerDeep, .data, .data, .data, .data, .data, .data, .sentinel, .sentinel, .pinned, .pinned, .pinned], laidTests := true, laidLooks := .later, goes := false }
def FnSetFieldPlainLastWriteToldSaid : Prop := Claim7.holds Tryz.pinned (.plain (OpenSpec.ofChange fnSetFieldPlainLastWriteSpec)) fnSetFieldPlainLastWriteCard
/-- ITS FALSE NEIGHBOUR. Refute it at one input. -/
def FnSetFieldPlainLastWriteToldWrongFalsely : Prop := Claim7.holds Tryz.pinned (.plain (OpenSpec.ofChange fnSetFieldPlainLastWriteWrong)) fnSetFieldPlainLastWriteCard

/-- THE TOLD AND TIED CARD OF 'n005_65.FnSetTablePlainLastWrite'. -/
def fnSetTablePlainLastWriteCard : Claim7 := { stood := { row := fnSetTablePlainLastWriteRow, standIns := [], harness := (true, "51ee891b00f0457097e9e946045ecb56da478fea9e52bb7ae91fea41b52bb3f9"), looks := true }, told := true, laidByText := true, laidKinds := [.data, .data, .widerDeep, .widerDeep, .data, .data, .data, .data, .data, .data, .sentinel, .sentinel, .pinned, .pinned, .pinned], laidTests := true, laidLooks := .later, goes := false }
def FnSetTablePlainLastWriteToldSaid : Prop := Claim7.holds Tryz.pinned (.plain (OpenSpec.ofChange fnSetTablePlainLastWriteSpec)) fnSetTablePlainLastWriteCard
/-- ITS FALSE NEIGHBOUR. Refute it at one input. -/
def FnSetTablePlainLastWriteToldWrongFalsely : Prop := Claim7.holds Tryz.pinned (.plain (OpenSpec.ofChange fnSetTablePlainLastWriteWrong)) fnSetTablePlainLastWriteCard

/-- THE TOLD AND TIED CARD OF 'n005_65.FnSetFieldNewindexProxy'. -/
def fnSetFieldNewindexProxyCard : Claim7 := { stood := { row := fnSetFieldNewindexProxyRow, standIns := [], harness := (true, "51ee891b00f0457097e9e946045ecb56da478fea9e52bb7ae91fea41b52bb3f9"), looks := true }, told := true, laidByText := true, laidKinds := [.data, .data, .widerDeep, .widerDeep, .data, .data, .data, .data, .data, .data, .sentinel, .sentinel, .pinned, .pinned, .pinned], laidTests := true, laidLooks := .later, goes := false }
def FnSetFieldNewindexProxyToldSaid : Prop := Claim7.holds Tryz.pinned (.plain (OpenSpec.ofChange fnSetFieldNewindexProxySpec)) fnSetFieldNewindexProxyCard
/-- ITS FALSE NEIGHBOUR. Refute it at one input. -/
def FnSetFieldNewindexProxyToldWrongFalsely : Prop := Claim7.holds Tryz.pinned (.plain (OpenSpec.ofChange fnSetFieldNewindexProxyWrong)) fnSetFieldNewindexProxyCard

/-- THE TOLD AND TIED CARD OF 'n005_65.FnSetTableAgreesWithSetField'. -/
def fnSetTableAgreesWithSetFieldCard : Claim7 := { stood := { row := fnSetTableAgreesWithSetFieldRow, standIns := [], harness := (true, "51ee891b00f0457097e9e946045ecb56da478fea9e52bb7ae91fea41b52bb3f9"), looks := true }, told := true, laidByText := true, laidKinds := [.data, .data, .widerDeep, .widerDeep, .data, .data, .data, .data, .data, .data, .sentinel, .sentinel, .pinned, .pinned, .pinned], laidTests := true, laidLooks := .later, goes := false }
def FnSetTableAgreesWithSetFieldToldSaid : Prop := Claim7.holds Tryz.pinned (.plain (OpenSpec.ofChange fnSetTableAgreesWithSetFieldSpec)) fnSetTableAgreesWithSetFieldCard
/-- ITS FALSE NEIGHBOUR. Refute it at one input. -/
def FnSetTableAgreesWithSetFieldToldWrongFalsely : Prop := Claim7.holds Tryz.pinned (.plain (OpenSpec.ofChange fnSetTableAgreesWithSetFieldWrong)) fnSetTableAgreesWithSetFieldCard

/-- THE TOLD AND TIED CARD OF 'n005_65.FnForEachVisitsLiveKeysOnce'. -/
def fnForEachVisitsLiveKeysOnceCard : Claim7 := { stood := { row := fnForEachVisitsLiveKeysOnceRow, standIns := [], harness := (true, "51ee891b00f0457097e9e946045ecb56da478fea9e52bb7ae91fea41b52bb3f9"), looks := true }, told := true, laidByText := true, laidKinds := [.data, .data, .widerDeep, .widerDeep, .data, .data, .data, .data, .data, .data, .sentinel, .sentinel, .pinned, .pinned, .pinned], laidTests := true, laidLooks := .later, goes := false }
def FnForEachVisitsLiveKeysOnceToldSaid : Prop := Claim7.holds Tryz.pinned (.plain (OpenSpec.ofChange fnForEachVisitsLiveKeysOnceSpec)) fnForEachVisitsLiveKeysOnceCard
/-- ITS FALSE NEIGHBOUR. Refute it at one input. -/
def FnForEachVisitsLiveKeysOnceToldWrongFalsely : Prop := Claim7.holds Tryz.pinned (.plain (OpenSpec.ofChange fnForEachVisitsLiveKeysOnceWrong)) fnForEachVisitsLiveKeysOnceCard

/-- THE TOLD AND TIED CARD OF 'n005_65.FnForEachAgreesWithNext'. -/
def fnForEachAgreesWithNextCard : Claim7 := { stood := { row := fnForEachAgreesWithNextRow, standIns := [], harness := (true, "51ee891b00f0457097e9e946045ecb56da478fea9e52bb7ae91fea41b52bb3f9"), looks := true }, told := true, laidByText := true, laidKinds := [.data, .data, .widerDeep, .widerDeep, .data, .data, .data, .data, .data, .data, .sentinel, .sentinel, .pinned, .pinned, .pinned], laidTests := true, laidLooks := .later, goes := false }
def FnForEachAgreesWithNextToldSaid : Prop := Claim7.holds Tryz.pinned (.plain (OpenSpec.ofChange fnForEachAgreesWithNextSpec)) fnForEachAgreesWithNextCard
/-- ITS FALSE NEIGHBOUR. Refute it at one input. -/
def FnForEachAgreesWithNextToldWrongFalsely : Prop := Claim7.holds Tryz.pinned (.plain (OpenSpec.ofChange fnForEachAgreesWithNextWrong)) fnForEachAgreesWithNextCard
end Rows
end Go.Proofs.YtlmadbgpllokfaaGreatFmt
