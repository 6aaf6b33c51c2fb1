/-
  DERIVED. GIVEN WITH THE SEED: THE CARDS: each row of YtnplhpckjcmgmaaDoorRows.lean that lists a variable, with what it lists TIED to the program's text (the seventh form; the later family's looks); each row that meets fmt, with fmt's text TOLD by the authors' own Lean function (tested against real Go, not proved from fmt's source: count such statements apart). THE CARD IS WHAT COUNTS. Prove the row's statement (the work); the ties are given (YtnplhpckjcmgmaaDoorTie.lean); close each card by the builder's one call (the guide's Derived/Test/ToyasCard.lean, 'card_holds'). Laid BY PROGRAM, IN A SANDBOX (cutbox-door.mjs). By AI agents, Wed Nov 11 2026. No macro, syntax, notation, axiom, sorry.
-/
import Derived.Test.YtnplhpckjcmgmaaDoorRows
import GoSem.ClaimSeven
namespace Go.Proofs.YtnplhpckjcmgmaaDoor
namespace Rows

/-- THE TIED CARD OF 'laws.FnDecodeOdd'. -/
def fnDecodeOddCard : Claim7 := { stood := { row := fnDecodeOddRow, standIns := [], harness := (true, "377012c9fcccbe0c2fba6602b2903bfa61e6df757813bafcffe61f3490baca7e"), looks := true }, kinds := [], alts := [], laidByText := true, laidKinds := [.sentinel], laidTests := true, laidLooks := .later }
def FnDecodeOddCardSaid : Prop := Claim7.holds Tryd.pinned (.plain (OpenSpec.ofChange fnDecodeOddSpec)) fnDecodeOddCard

/-- THE TIED CARD OF 'laws.FnDecodeJoin'. -/
def fnDecodeJoinCard : Claim7 := { stood := { row := fnDecodeJoinRow, standIns := [], harness := (true, "377012c9fcccbe0c2fba6602b2903bfa61e6df757813bafcffe61f3490baca7e"), looks := true }, kinds := [], alts := [], laidByText := true, laidKinds := [.sentinel], laidTests := true, laidLooks := .later }
def FnDecodeJoinCardSaid : Prop := Claim7.holds Tryd.pinned (.plain (OpenSpec.ofChange fnDecodeJoinSpec)) fnDecodeJoinCard

/-- THE TIED CARD OF 'laws.FnDecodeEncode'. -/
def fnDecodeEncodeCard : Claim7 := { stood := { row := fnDecodeEncodeRow, standIns := [], harness := (true, "377012c9fcccbe0c2fba6602b2903bfa61e6df757813bafcffe61f3490baca7e"), looks := true }, kinds := [], alts := [], laidByText := true, laidKinds := [.sentinel], laidTests := true, laidLooks := .later }
def FnDecodeEncodeCardSaid : Prop := Claim7.holds Tryd.pinned (.plain (OpenSpec.ofChange fnDecodeEncodeSpec)) fnDecodeEncodeCard

/-- THE TIED CARD OF 'laws.FnDecodeWrong'. -/
def fnDecodeWrongCard : Claim7 := { stood := { row := fnDecodeWrongRow, standIns := [], harness := (true, "377012c9fcccbe0c2fba6602b2903bfa61e6df757813bafcffe61f3490baca7e"), looks := true }, kinds := [], alts := [], laidByText := true, laidKinds := [.sentinel], laidTests := true, laidLooks := .later }
def FnDecodeWrongCardSaid : Prop := Claim7.holds Tryd.pinned (.plain (OpenSpec.ofChange fnDecodeWrongSpec)) fnDecodeWrongCard

/-- THE TIED CARD OF 'laws.FnDecodeWrongOdd'. -/
def fnDecodeWrongOddCard : Claim7 := { stood := { row := fnDecodeWrongOddRow, standIns := [], harness := (true, "377012c9fcccbe0c2fba6602b2903bfa61e6df757813bafcffe61f3490baca7e"), looks := true }, kinds := [], alts := [], laidByText := true, laidKinds := [.sentinel], laidTests := true, laidLooks := .later }
def FnDecodeWrongOddCardSaid : Prop := Claim7.holds Tryd.pinned (.plain (OpenSpec.ofChange fnDecodeWrongOddSpec)) fnDecodeWrongOddCard

/-- THE TIED CARD OF 'laws.FnDecodeWrongSecond'. -/
def fnDecodeWrongSecondCard : Claim7 := { stood := { row := fnDecodeWrongSecondRow, standIns := [], harness := (true, "377012c9fcccbe0c2fba6602b2903bfa61e6df757813bafcffe61f3490baca7e"), looks := true }, kinds := [], alts := [], laidByText := true, laidKinds := [.sentinel], laidTests := true, laidLooks := .later }
def FnDecodeWrongSecondCardSaid : Prop := Claim7.holds Tryd.pinned (.plain (OpenSpec.ofChange fnDecodeWrongSecondSpec)) fnDecodeWrongSecondCard

/-- THE SECOND FORM's CARD OF 'laws.FnDecodeOdd'. -/
def fnDecodeOddUptoCard : Claim7 := { stood := { row := fnDecodeOddUptoRow, standIns := [], harness := (true, "377012c9fcccbe0c2fba6602b2903bfa61e6df757813bafcffe61f3490baca7e"), looks := true }, kinds := [], alts := [], laidByText := true, laidKinds := [.sentinel], laidTests := true, laidLooks := .later }
def FnDecodeOddUptoCardSaid : Prop := Claim7.holds Tryd.pinned (.plain (OpenSpec.upto fnDecodeOddSpec)) fnDecodeOddUptoCard

/-- THE SECOND FORM's CARD OF 'laws.FnDecodeJoin'. -/
def fnDecodeJoinUptoCard : Claim7 := { stood := { row := fnDecodeJoinUptoRow, standIns := [], harness := (true, "377012c9fcccbe0c2fba6602b2903bfa61e6df757813bafcffe61f3490baca7e"), looks := true }, kinds := [], alts := [], laidByText := true, laidKinds := [.sentinel], laidTests := true, laidLooks := .later }
def FnDecodeJoinUptoCardSaid : Prop := Claim7.holds Tryd.pinned (.plain (OpenSpec.upto fnDecodeJoinSpec)) fnDecodeJoinUptoCard

/-- THE SECOND FORM's CARD OF 'laws.FnDecodeEncode'. -/
def fnDecodeEncodeUptoCard : Claim7 := { stood := { row := fnDecodeEncodeUptoRow, standIns := [], harness := (true, "377012c9fcccbe0c2fba6602b2903bfa61e6df757813bafcffe61f3490baca7e"), looks := true }, kinds := [], alts := [], laidByText := true, laidKinds := [.sentinel], laidTests := true, laidLooks := .later }
def FnDecodeEncodeUptoCardSaid : Prop := Claim7.holds Tryd.pinned (.plain (OpenSpec.upto fnDecodeEncodeSpec)) fnDecodeEncodeUptoCard

/-- THE SECOND FORM's CARD OF 'laws.FnDecodeWrong'. -/
def fnDecodeWrongUptoCard : Claim7 := { stood := { row := fnDecodeWrongUptoRow, standIns := [], harness := (true, "377012c9fcccbe0c2fba6602b2903bfa61e6df757813bafcffe61f3490baca7e"), looks := true }, kinds := [], alts := [], laidByText := true, laidKinds := [.sentinel], laidTests := true, laidLooks := .later }
def FnDecodeWrongUptoCardSaid : Prop := Claim7.holds Tryd.pinned (.plain (OpenSpec.upto fnDecodeWrongSpec)) fnDecodeWrongUptoCard

/-- THE SECOND FORM's CARD OF 'laws.FnDecodeWrongOdd'. -/
def fnDecodeWrongOddUptoCard : Claim7 := { stood := { row := fnDecodeWrongOddUptoRow, standIns := [], harness := (true, "377012c9fcccbe0c2fba6602b2903bfa61e6df757813bafcffe61f3490baca7e"), looks := true }, kinds := [], alts := [], laidByText := true, laidKinds := [.sentinel], laidTests := true, laidLooks := .later }
def FnDecodeWrongOddUptoCardSaid : Prop := Claim7.holds Tryd.pinned (.plain (OpenSpec.upto fnDecodeWrongOddSpec)) fnDecodeWrongOddUptoCard

/-- THE SECOND FORM's CARD OF 'laws.FnDecodeWrongSecond'. -/
def fnDecodeWrongSecondUptoCard : Claim7 := { stood := { row := fnDecodeWrongSecondUptoRow, standIns := [], harness := (true, "377012c9fcccbe0c2fba6602b2903bfa61e6df757813bafcffe61f3490baca7e"), looks := true }, kinds := [], alts := [], laidByText := true, laidKinds := [.sentinel], laidTests := true, laidLooks := .later }
def FnDecodeWrongSecondUptoCardSaid : Prop := Claim7.holds Tryd.pinned (.plain (OpenSpec.upto fnDecodeWrongSecondSpec)) fnDecodeWrongSecondUptoCard
end Rows
end Go.Proofs.YtnplhpckjcmgmaaDoor
