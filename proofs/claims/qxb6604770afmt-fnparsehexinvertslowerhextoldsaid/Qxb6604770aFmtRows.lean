/-
  NARROWER THAN 'FOR EVERY INPUT', by the rows' own cells (each row's printed sentence says how): FnParseHexCaseTable: laid · FnParseHexInvertsLowerHex: laid.
  DERIVED. THE GIVEN ROWS OF THIS SEAT. 2 by the template 'for every input the law returns true; each argument reads behind the call as it read before'; 0 by the template 'total and deterministic' (their statements: Qxb6604770aFmtTotals.lean).
  GIVEN WITH THE SEED: the statements are not yours to turn. If you find one false, say at which input.
  Laid BY PROGRAM, IN A SANDBOX (cutbox-rows.mjs): the forced cells as the released guide's own fill.sh prints them over the translation b39b4bbb57dcc3d6… (all of the seat's roots in one cut). By AI agents, Wed Nov 11 2026. No macro, syntax, notation, axiom, sorry.
-/
import Derived.Test.Qxb6604770aFmtChecked
import GoSem.Claim
import GoSem.ClaimJoined
import GoSem.ClaimMapViews
import Derived.JoinedTies
import Derived.KernelRfl
namespace Go.Proofs.Qxb6604770aFmt
/- THE CELL 'sum', in the pinned program and in every row, IS THE sha256 OF THE DUMP (.gsa) THAT Qxb6604770aFmtProg.lean LOADS. Nothing in Lean hashes anything: it is a label: what it is worth is what the hold of that sum in a sandbox is worth. -/
noncomputable def Tryf.pinned : Pinned := { name := "qxb6604770afmt", sum := "b39b4bbb57dcc3d634c7738c2e3e19d72db43861549c280ac2864481bf6c1878", checked := Tryf.checked }
namespace Rows
def none {H : Type} : Left H := { results := [], args := [] }

/- WHAT THE LISTED PACKAGE-LEVEL VARIABLES READ AS WHEN THE CALL BEGINS. Each datum BY PROGRAM (the guide's laid-datum.mjs) off the statement by which the dump's own 'gosem.cut.vars' lays the variable. In a bare row this is a premise. The card (Qxb6604770aFmtCards.lean) ties it to the program's text. -/
def laid_encoding_hex_ErrLength {H : Type} : DataW H := .iface "*errors.errorString" (.ptr (.agg [.lit (.string [101, 110, 99, 111, 100, 105, 110, 103, 47, 104, 101, 120, 58, 32, 111, 100, 100, 32, 108, 101, 110, 103, 116, 104, 32, 104, 101, 120, 32, 115, 116, 114, 105, 110, 103])]))

/-- 'zzlaws_root_b1.FnParseHexCaseTable': WHATEVER THE INPUT: true; the input reads as it did. -/
def fnParseHexCaseTableSpec : ChangeSpec := { name := "fnParseHexCaseTable", fn := fun _ => fun
  | [d] => { results := [.lit (.bool true)], args := [d] }
  | _ => none }
def fnParseHexCaseTableRow : OpenClaim := { program := "qxb6604770afmt", sum := "b39b4bbb57dcc3d634c7738c2e3e19d72db43861549c280ac2864481bf6c1878", func := "example.com/greylot/greylot/zzlaws_root_b1.FnParseHexCaseTable", spec := "fnParseHexCaseTable", stops := ["fmt.errorf"], inPlace := ["fmt.errorf"], named := ["encoding/hex.ErrLength"], apart := false, laid := [("encoding/hex.ErrLength", laid_encoding_hex_ErrLength)] }
/-- NO THEOREM (fmt's text is open here; it may be false): for the released tool's asking of the row's closed facts alone. THE STATEMENT IS 'FnParseHexCaseTableToldSaid' (Qxb6604770aFmtCards.lean). -/
def FnParseHexCaseTableFormAsk : Prop := fnParseHexCaseTableRow.holds Tryf.pinned (OpenSpec.ofChange fnParseHexCaseTableSpec)

/-- ITS FALSE NEIGHBOUR: 'it returns false'. Refute it at one input. -/
def fnParseHexCaseTableWrong : ChangeSpec := { name := "fnParseHexCaseTable", fn := fun _ => fun
  | [d] => { results := [.lit (.bool false)], args := [d] }
  | _ => none }
def FnParseHexCaseTableWrongFormAsk : Prop := fnParseHexCaseTableRow.holds Tryf.pinned (OpenSpec.ofChange fnParseHexCaseTableWrong)

/-- 'zzlaws_root_b1.FnParseHexInvertsLowerHex': WHATEVER THE INPUT: true; the input reads as it did. -/
def fnParseHexInvertsLowerHexSpec : ChangeSpec := { name := "fnParseHexInvertsLowerHex", fn := fun _ => fun
  | [d] => { results := [.lit (.bool true)], args := [d] }
  | _ => none }
def fnParseHexInvertsLowerHexRow : OpenClaim := { program := "qxb6604770afmt", sum := "b39b4bbb57dcc3d634c7738c2e3e19d72db43861549c280ac2864481bf6c1878", func := "example.com/greylot/greylot/zzlaws_root_b1.FnParseHexInvertsLowerHex", spec := "fnParseHexInvertsLowerHex", stops := ["fmt.errorf"], inPlace := ["fmt.errorf"], named := ["encoding/hex.ErrLength"], apart := false, laid := [("encoding/hex.ErrLength", laid_encoding_hex_ErrLength)] }
/-- NO THEOREM (fmt's text is open here; it may be false): for the released tool's asking of the row's closed facts alone. THE STATEMENT IS 'FnParseHexInvertsLowerHexToldSaid' (Qxb6604770aFmtCards.lean). -/
def FnParseHexInvertsLowerHexFormAsk : Prop := fnParseHexInvertsLowerHexRow.holds Tryf.pinned (OpenSpec.ofChange fnParseHexInvertsLowerHexSpec)

/-- ITS FALSE NEIGHBOUR: 'it returns false'. Refute it at one input. -/
def fnParseHexInvertsLowerHexWrong : ChangeSpec := { name := "fnParseHexInvertsLowerHex", fn := fun _ => fun
  | [d] => { results := [.lit (.bool false)], args := [d] }
  | _ => none }
def FnParseHexInvertsLowerHexWrongFormAsk : Prop := fnParseHexInvertsLowerHexRow.holds Tryf.pinned (OpenSpec.ofChange fnParseHexInvertsLowerHexWrong)

end Rows
end Go.Proofs.Qxb6604770aFmt
