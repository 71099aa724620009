/-
  DERIVED. GIVEN WITH THE SEED: THE CARDS: each row of YtceejkkkicanmaaGreatFmtRows.lean that lists a variable, with what it lists TIED to the program's text (the seventh form; the later family's looks); each row that meets fmt, with fmt's text TOLD by the authors' own Lean function (tested against real Go, not proved from fmt's source: count such statements apart). THE CARD IS WHAT COUNTS. Prove the row's statement (the work); the ties are given (YtceejkkkicanmaaGreatFmtTie.lean); close each card by the builder's one call (the guide's Derived/Test/ToyasCard.lean, 'card_holds'). Laid BY PROGRAM, IN A SANDBOX (cutbox-door.mjs). By AI agents, Wed Nov 11 2026. No macro, syntax, notation, axiom, sorry.
-/
import Derived.Test.YtceejkkkicanmaaGreatFmtRows
import GoSem.ClaimSeven
namespace Go.Proofs.YtceejkkkicanmaaGreatFmt
namespace Rows

/-- THE TOLD AND TIED CARD OF 'n005_65.FnRawSetIntRawGetIntSplit'. -/
def fnRawSetIntRawGetIntSplitCard : Claim7 := { stood := { row := fnRawSetIntRawGetIntSplitRow, standIns := [], harness := (true, "6aa368addb2665199441615d72a2f6ffda6b933794d2757f978767a52ae926fb"), looks := true }, told := true, laidByText := true, laidKinds := [.data, .data, .widerDeep, .widerDeep, .data, .data, .data, .data, .data, .data, .sentinel, .sentinel, .pinned, .pinned, .pinned], laidTests := true, laidLooks := .later, goes := false }
def FnRawSetIntRawGetIntSplitToldSaid : Prop := Claim7.holds Tryz.pinned (.plain (OpenSpec.ofChange fnRawSetIntRawGetIntSplitSpec)) fnRawSetIntRawGetIntSplitCard
/-- ITS FALSE NEIGHBOUR. Refute it at one input. -/
def FnRawSetIntRawGetIntSplitToldWrongFalsely : Prop := Claim7.holds Tryz.pinned (.plain (OpenSpec.ofChange fnRawSetIntRawGetIntSplitWrong)) fnRawSetIntRawGetIntSplitCard

/-- THE TOLD AND TIED CARD OF 'n005_65.FnRawSetIntLastWriteWins'. -/
def fnRawSetIntLastWriteWinsCard : Claim7 := { stood := { row := fnRawSetIntLastWriteWinsRow, standIns := [], harness := (true, "6aa368addb2665199441615d72a2f6ffda6b933794d2757f978767a52ae926fb"), looks := true }, told := true, laidByText := true, laidKinds := [.data, .data, .widerDeep, .widerDeep, .data, .data, .data, .data, .data, .data, .sentinel, .sentinel, .pinned, .pinned, .pinned], laidTests := true, laidLooks := .later, goes := false }
def FnRawSetIntLastWriteWinsToldSaid : Prop := Claim7.holds Tryz.pinned (.plain (OpenSpec.ofChange fnRawSetIntLastWriteWinsSpec)) fnRawSetIntLastWriteWinsCard
/-- ITS FALSE NEIGHBOUR. Refute it at one input. -/
def FnRawSetIntLastWriteWinsToldWrongFalsely : Prop := Claim7.holds Tryz.pinned (.plain (OpenSpec.ofChange fnRawSetIntLastWriteWinsWrong)) fnRawSetIntLastWriteWinsCard

/-- THE TOLD AND TIED CARD OF 'n005_150.FnRawGetLastWriteWins'. -/
def fnRawGetLastWriteWinsCard : Claim7 := { stood := { row := fnRawGetLastWriteWinsRow, standIns := [], harness := (true, "6aa368addb2665199441615d72a2f6ffda6b933794d2757f978767a52ae926fb"), looks := true }, told := true, laidByText := true, laidKinds := [.data, .data, .widerDeep, .widerDeep, .data, .data, .data, .data, .data, .data, .sentinel, .sentinel, .pinned, .pinned, .pinned], laidTests := true, laidLooks := .later, goes := false }
def FnRawGetLastWriteWinsToldSaid : Prop := Claim7.holds Tryz.pinned (.plain (OpenSpec.ofChange fnRawGetLastWriteWinsSpec)) fnRawGetLastWriteWinsCard
/-- ITS FALSE NEIGHBOUR. Refute it at one input. -/
def FnRawGetLastWriteWinsToldWrongFalsely : Prop := Claim7.holds Tryz.pinned (.plain (OpenSpec.ofChange fnRawGetLastWriteWinsWrong)) fnRawGetLastWriteWinsCard

/-- THE TOLD AND TIED CARD OF 'n005_150.FnRawGetAgreesWithRawGetIntAndZeroSign'. -/
def fnRawGetAgreesWithRawGetIntAndZeroSignCard : Claim7 := { stood := { row := fnRawGetAgreesWithRawGetIntAndZeroSignRow, standIns := [], harness := (true, "6aa368addb2665199441615d72a2f6ffda6b933794d2757f978767a52ae926fb"), looks := true }, told := true, laidByText := true, laidKinds := [.data, .data, .widerDeep, .widerDeep, .data, .data, .data, .data, .data, .data, .sentinel, .sentinel, .pinned, .pinned, .pinned], laidTests := true, laidLooks := .later, goes := false }
def FnRawGetAgreesWithRawGetIntAndZeroSignToldSaid : Prop := Claim7.holds Tryz.pinned (.plain (OpenSpec.ofChange fnRawGetAgreesWithRawGetIntAndZeroSignSpec)) fnRawGetAgreesWithRawGetIntAndZeroSignCard
/-- ITS FALSE NEIGHBOUR. Refute it at one input. -/
def FnRawGetAgreesWithRawGetIntAndZeroSignToldWrongFalsely : Prop := Claim7.holds Tryz.pinned (.plain (OpenSpec.ofChange fnRawGetAgreesWithRawGetIntAndZeroSignWrong)) fnRawGetAgreesWithRawGetIntAndZeroSignCard
end Rows
end Go.Proofs.YtceejkkkicanmaaGreatFmt
