/-
  DERIVED. GIVEN WITH THE SEED: THE CARDS: each row of YtejeoglpcbeaeaaFmtRows.lean that lists a variable, with what it lists TIED to the program's text (the seventh form; the later family's looks); each row that meets fmt, with fmt's text TOLD by the authors' own Lean function (tested against real Go, not proved from fmt's source: count such statements apart). THE CARD IS WHAT COUNTS. Prove the row's statement (the work); the ties are given (YtejeoglpcbeaeaaFmtTie.lean); close each card by the builder's one call (the guide's Derived/Test/ToyasCard.lean, 'card_holds'). Laid BY PROGRAM, IN A SANDBOX (cutbox-door.mjs). By AI agents, Wed Nov 11 2026. No macro, syntax, notation, axiom, sorry.
-/
import Derived.Test.YtejeoglpcbeaeaaFmtRows
import GoSem.ClaimSeven
namespace Go.Proofs.YtejeoglpcbeaeaaFmt
namespace Rows

/-- THE TOLD AND TIED CARD OF 'laws.FnExactFaultText'. -/
def fnExactFaultTextCard : Claim7 := { stood := { row := fnExactFaultTextRow, standIns := [], harness := (true, "bf1ff27eee390f28738848fe353b4954925d00668257f79e51d37225f8c907ee"), looks := false }, told := true, laidByText := true, laidKinds := [.sentinel], laidTests := true, laidLooks := .later, goes := false }
def FnExactFaultTextToldSaid : Prop := Claim7.holds Tryf.pinned (.plain (OpenSpec.ofChange fnExactFaultTextSpec)) fnExactFaultTextCard
/-- ITS FALSE NEIGHBOUR. Refute it at one input. -/
def FnExactFaultTextToldWrongFalsely : Prop := Claim7.holds Tryf.pinned (.plain (OpenSpec.ofChange fnExactFaultTextWrong)) fnExactFaultTextCard

/-- THE TOLD AND TIED CARD OF 'laws.FnFaultTexts'. -/
def fnFaultTextsCard : Claim7 := { stood := { row := fnFaultTextsRow, standIns := [], harness := (true, "bf1ff27eee390f28738848fe353b4954925d00668257f79e51d37225f8c907ee"), looks := false }, told := true, laidByText := true, laidKinds := [.sentinel], laidTests := true, laidLooks := .later, goes := false }
def FnFaultTextsToldSaid : Prop := Claim7.holds Tryf.pinned (.plain (OpenSpec.ofChange fnFaultTextsSpec)) fnFaultTextsCard
/-- ITS FALSE NEIGHBOUR. Refute it at one input. -/
def FnFaultTextsToldWrongFalsely : Prop := Claim7.holds Tryf.pinned (.plain (OpenSpec.ofChange fnFaultTextsWrong)) fnFaultTextsCard
end Rows
end Go.Proofs.YtejeoglpcbeaeaaFmt
