/-
  NARROWER THAN 'FOR EVERY INPUT', by the rows' own cells (each row's printed sentence says how): FnExactFaultText: laid · FnFaultTexts: laid.
  DERIVED. THE GIVEN ROWS OF THIS SEAT. 2 by the template 'for every input the law returns true; each argument reads behind the call as it read before'; 0 by the template 'total and deterministic' (their statements: YtejeoglpcbeaeaaFmtTotals.lean).
  GIVEN WITH THE SEED: the statements are not yours to turn. If you find one false, say at which input.
  Laid BY PROGRAM, IN A SANDBOX (cutbox-rows.mjs): the forced cells as the released guide's own fill.sh prints them over the translation 972505e980d60908… (all of the seat's roots in one cut). By AI agents, Wed Nov 11 2026. No macro, syntax, notation, axiom, sorry.
-/
import Derived.Test.YtejeoglpcbeaeaaFmtChecked
import GoSem.Claim
import GoSem.ClaimJoined
import GoSem.ClaimMapViews
import Derived.JoinedTies
import Derived.KernelRfl
namespace Go.Proofs.YtejeoglpcbeaeaaFmt
/- THE CELL 'sum', in the pinned program and in every row, IS THE sha256 OF THE DUMP (.gsa) THAT YtejeoglpcbeaeaaFmtProg.lean LOADS. Nothing in Lean hashes anything: it is a label: what it is worth is what the hold of that sum in a sandbox is worth. -/
noncomputable def Tryf.pinned : Pinned := { name := "ytejeoglpcbeaeaafmt", sum := "972505e980d60908f6e1cd1b0068f2e1d24ada49b484aca8b29a690b4c6080a0", checked := Tryf.checked }
namespace Rows
def none {H : Type} : Left H := { results := [], args := [] }

/- WHAT THE LISTED PACKAGE-LEVEL VARIABLES READ AS WHEN THE CALL BEGINS. Each datum BY PROGRAM (the guide's laid-datum.mjs) off the statement by which the dump's own 'gosem.cut.vars' lays the variable. In a bare row this is a premise. The card (YtejeoglpcbeaeaaFmtCards.lean) ties it to the program's text. -/
def laid_encoding_hex_ErrLength {H : Type} : DataW H := .iface "*errors.errorString" (.ptr (.agg [.lit (.string [101, 110, 99, 111, 100, 105, 110, 103, 47, 104, 101, 120, 58, 32, 111, 100, 100, 32, 108, 101, 110, 103, 116, 104, 32, 104, 101, 120, 32, 115, 116, 114, 105, 110, 103])]))

/-- 'laws.FnExactFaultText': WHATEVER THE INPUT: true; the input reads as it did. -/
def fnExactFaultTextSpec : ChangeSpec := { name := "fnExactFaultText", fn := fun _ => fun
  | [d] => { results := [.lit (.bool true)], args := [d] }
  | _ => none }
def fnExactFaultTextRow : OpenClaim := { program := "ytejeoglpcbeaeaafmt", sum := "972505e980d60908f6e1cd1b0068f2e1d24ada49b484aca8b29a690b4c6080a0", func := "loop.example/lib-hexvarint/laws.FnExactFaultText", spec := "fnExactFaultText", stops := ["fmt.Sprintf"], unfollowed := true, recurses := true, named := ["encoding/hex.ErrLength"], apart := false, laid := [("encoding/hex.ErrLength", laid_encoding_hex_ErrLength)] }
/-- NO THEOREM (fmt's text is open here; it may be false): for the released tool's asking of the row's closed facts alone. THE STATEMENT IS 'FnExactFaultTextToldSaid' (YtejeoglpcbeaeaaFmtCards.lean). -/
def FnExactFaultTextFormAsk : Prop := fnExactFaultTextRow.holds Tryf.pinned (OpenSpec.ofChange fnExactFaultTextSpec)

/-- ITS FALSE NEIGHBOUR: 'it returns false'. Refute it at one input. -/
def fnExactFaultTextWrong : ChangeSpec := { name := "fnExactFaultText", fn := fun _ => fun
  | [d] => { results := [.lit (.bool false)], args := [d] }
  | _ => none }
def FnExactFaultTextWrongFormAsk : Prop := fnExactFaultTextRow.holds Tryf.pinned (OpenSpec.ofChange fnExactFaultTextWrong)

/-- 'laws.FnFaultTexts': WHATEVER THE INPUT: true; the input reads as it did. -/
def fnFaultTextsSpec : ChangeSpec := { name := "fnFaultTexts", fn := fun _ => fun
  | [d1, d2, d3, d4] => { results := [.lit (.bool true)], args := [d1, d2, d3, d4] }
  | _ => none }
def fnFaultTextsRow : OpenClaim := { program := "ytejeoglpcbeaeaafmt", sum := "972505e980d60908f6e1cd1b0068f2e1d24ada49b484aca8b29a690b4c6080a0", func := "loop.example/lib-hexvarint/laws.FnFaultTexts", spec := "fnFaultTexts", stops := ["fmt.Sprintf"], unfollowed := true, recurses := true, named := ["encoding/hex.ErrLength"], apart := false, laid := [("encoding/hex.ErrLength", laid_encoding_hex_ErrLength)] }
/-- NO THEOREM (fmt's text is open here; it may be false): for the released tool's asking of the row's closed facts alone. THE STATEMENT IS 'FnFaultTextsToldSaid' (YtejeoglpcbeaeaaFmtCards.lean). -/
def FnFaultTextsFormAsk : Prop := fnFaultTextsRow.holds Tryf.pinned (OpenSpec.ofChange fnFaultTextsSpec)

/-- ITS FALSE NEIGHBOUR: 'it returns false'. Refute it at one input. -/
def fnFaultTextsWrong : ChangeSpec := { name := "fnFaultTexts", fn := fun _ => fun
  | [d1, d2, d3, d4] => { results := [.lit (.bool false)], args := [d1, d2, d3, d4] }
  | _ => none }
def FnFaultTextsWrongFormAsk : Prop := fnFaultTextsRow.holds Tryf.pinned (OpenSpec.ofChange fnFaultTextsWrong)

end Rows
end Go.Proofs.YtejeoglpcbeaeaaFmt
