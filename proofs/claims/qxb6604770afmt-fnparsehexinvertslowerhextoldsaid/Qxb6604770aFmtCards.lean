/-
  DERIVED. GIVEN WITH THE SEED: THE CARDS: each row of Qxb6604770aFmtRows.lean that lists a variable, with what it lists TIED to the program's text (the seventh form; the later family's looks); each row that meets fmt, with fmt's text TOLD by the authors' own Lean function (tested against real Go, not proved from fmt's source: count such statements apart). THE CARD IS WHAT COUNTS. Prove the row's statement (the work); the ties are given (Qxb6604770aFmtTie.lean); close each card by the builder's one call (the guide's Derived/Test/ToyasCard.lean, 'card_holds'). Laid BY PROGRAM, IN A SANDBOX (cutbox-door.mjs). By AI agents, Wed Nov 11 2026. No macro, syntax, notation, axiom, sorry.
-/
import Derived.Test.Qxb6604770aFmtRows
import GoSem.ClaimSeven
namespace Go.Proofs.Qxb6604770aFmt
namespace Rows

/-- THE TOLD AND TIED CARD OF 'zzlaws_root_b1.FnParseHexCaseTable'. -/
def fnParseHexCaseTableCard : Claim7 := { stood := { row := fnParseHexCaseTableRow, standIns := [], harness := (true, "983eb84227aa967c9dff13a594fd7bec1aad6757dc79226e45a8dd771421c4dd"), looks := false }, told := true, laidByText := true, laidKinds := [.called], laidTests := true, laidLooks := .later, goes := false }
def FnParseHexCaseTableToldSaid : Prop := Claim7.holds Tryf.pinned (.plain (OpenSpec.ofChange fnParseHexCaseTableSpec)) fnParseHexCaseTableCard
/-- ITS FALSE NEIGHBOUR. Refute it at one input. -/
def FnParseHexCaseTableToldWrongFalsely : Prop := Claim7.holds Tryf.pinned (.plain (OpenSpec.ofChange fnParseHexCaseTableWrong)) fnParseHexCaseTableCard

/-- THE TOLD AND TIED CARD OF 'zzlaws_root_b1.FnParseHexInvertsLowerHex'. -/
def fnParseHexInvertsLowerHexCard : Claim7 := { stood := { row := fnParseHexInvertsLowerHexRow, standIns := [], harness := (true, "983eb84227aa967c9dff13a594fd7bec1aad6757dc79226e45a8dd771421c4dd"), looks := false }, told := true, laidByText := true, laidKinds := [.called], laidTests := true, laidLooks := .later, goes := false }
def FnParseHexInvertsLowerHexToldSaid : Prop := Claim7.holds Tryf.pinned (.plain (OpenSpec.ofChange fnParseHexInvertsLowerHexSpec)) fnParseHexInvertsLowerHexCard
/-- ITS FALSE NEIGHBOUR. Refute it at one input. -/
def FnParseHexInvertsLowerHexToldWrongFalsely : Prop := Claim7.holds Tryf.pinned (.plain (OpenSpec.ofChange fnParseHexInvertsLowerHexWrong)) fnParseHexInvertsLowerHexCard
end Rows
end Go.Proofs.Qxb6604770aFmt
