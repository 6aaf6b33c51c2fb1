/-
  DERIVED. GIVEN WITH THE SEED: THE CARDS: each row of YtidbhedmiebdaaaDoorRows.lean that lists a variable, with what it lists TIED to the program's text (the seventh form; the later family's looks); each row that meets fmt, with fmt's text TOLD by the authors' own Lean function (tested against real Go, not proved from fmt's source: count such statements apart). THE CARD IS WHAT COUNTS. Prove the row's statement (the work); the ties are given (YtidbhedmiebdaaaDoorTie.lean); close each card by the builder's one call (the guide's Derived/Test/ToyasCard.lean, 'card_holds'). Laid BY PROGRAM, IN A SANDBOX (cutbox-door.mjs). By AI agents, Wed Nov 11 2026. No macro, syntax, notation, axiom, sorry.
-/
import Derived.Test.YtidbhedmiebdaaaDoorRows
import GoSem.ClaimSeven
namespace Go.Proofs.YtidbhedmiebdaaaDoor
namespace Rows

/-- THE TIED CARD OF 'laws.FnDecodeWrong'. -/
def fnDecodeWrongCard : Claim7 := { stood := { row := fnDecodeWrongRow, standIns := [], harness := (true, "73f5c080c259db868223783d9c55b36f394dba367664e4bd59f21cc1a64df631"), looks := true }, kinds := [], alts := [], laidByText := true, laidKinds := [.sentinel], laidTests := true, laidLooks := .later }
def FnDecodeWrongCardSaid : Prop := Claim7.holds Tryd.pinned (.plain (OpenSpec.ofChange fnDecodeWrongSpec)) fnDecodeWrongCard

/-- THE TIED CARD OF 'laws.FnDecodeWrongOdd'. -/
def fnDecodeWrongOddCard : Claim7 := { stood := { row := fnDecodeWrongOddRow, standIns := [], harness := (true, "73f5c080c259db868223783d9c55b36f394dba367664e4bd59f21cc1a64df631"), looks := true }, kinds := [], alts := [], laidByText := true, laidKinds := [.sentinel], laidTests := true, laidLooks := .later }
def FnDecodeWrongOddCardSaid : Prop := Claim7.holds Tryd.pinned (.plain (OpenSpec.ofChange fnDecodeWrongOddSpec)) fnDecodeWrongOddCard

/-- THE TIED CARD OF 'laws.FnDecodeWrongSecond'. -/
def fnDecodeWrongSecondCard : Claim7 := { stood := { row := fnDecodeWrongSecondRow, standIns := [], harness := (true, "73f5c080c259db868223783d9c55b36f394dba367664e4bd59f21cc1a64df631"), looks := true }, kinds := [], alts := [], laidByText := true, laidKinds := [.sentinel], laidTests := true, laidLooks := .later }
def FnDecodeWrongSecondCardSaid : Prop := Claim7.holds Tryd.pinned (.plain (OpenSpec.ofChange fnDecodeWrongSecondSpec)) fnDecodeWrongSecondCard

/-- THE TIED CARD OF 'laws.FnEncodeDecode'. -/
def fnEncodeDecodeCard : Claim7 := { stood := { row := fnEncodeDecodeRow, standIns := [], harness := (true, "73f5c080c259db868223783d9c55b36f394dba367664e4bd59f21cc1a64df631"), looks := true }, kinds := [], alts := [], laidByText := true, laidKinds := [.sentinel], laidTests := true, laidLooks := .later }
def FnEncodeDecodeCardSaid : Prop := Claim7.holds Tryd.pinned (.plain (OpenSpec.ofChange fnEncodeDecodeSpec)) fnEncodeDecodeCard

/-- THE TIED CARD OF 'laws.FnExactDecode'. -/
def fnExactDecodeCard : Claim7 := { stood := { row := fnExactDecodeRow, standIns := [], harness := (true, "73f5c080c259db868223783d9c55b36f394dba367664e4bd59f21cc1a64df631"), looks := true }, kinds := [], alts := [], laidByText := true, laidKinds := [.sentinel], laidTests := true, laidLooks := .later }
def FnExactDecodeCardSaid : Prop := Claim7.holds Tryd.pinned (.plain (OpenSpec.ofChange fnExactDecodeSpec)) fnExactDecodeCard

/-- THE TIED CARD OF 'laws.FnExactDecodeRest'. -/
def fnExactDecodeRestCard : Claim7 := { stood := { row := fnExactDecodeRestRow, standIns := [], harness := (true, "73f5c080c259db868223783d9c55b36f394dba367664e4bd59f21cc1a64df631"), looks := true }, kinds := [], alts := [], laidByText := true, laidKinds := [.sentinel], laidTests := true, laidLooks := .later }
def FnExactDecodeRestCardSaid : Prop := Claim7.holds Tryd.pinned (.plain (OpenSpec.ofChange fnExactDecodeRestSpec)) fnExactDecodeRestCard

/-- THE TIED CARD OF 'laws.FnExactAppendDecode'. -/
def fnExactAppendDecodeCard : Claim7 := { stood := { row := fnExactAppendDecodeRow, standIns := [], harness := (true, "73f5c080c259db868223783d9c55b36f394dba367664e4bd59f21cc1a64df631"), looks := true }, kinds := [], alts := [], laidByText := true, laidKinds := [.sentinel], laidTests := true, laidLooks := .later }
def FnExactAppendDecodeCardSaid : Prop := Claim7.holds Tryd.pinned (.plain (OpenSpec.ofChange fnExactAppendDecodeSpec)) fnExactAppendDecodeCard

/-- THE TIED CARD OF 'laws.FnExactAppendDecodeFault'. -/
def fnExactAppendDecodeFaultCard : Claim7 := { stood := { row := fnExactAppendDecodeFaultRow, standIns := [], harness := (true, "73f5c080c259db868223783d9c55b36f394dba367664e4bd59f21cc1a64df631"), looks := true }, kinds := [], alts := [], laidByText := true, laidKinds := [.sentinel], laidTests := true, laidLooks := .later }
def FnExactAppendDecodeFaultCardSaid : Prop := Claim7.holds Tryd.pinned (.plain (OpenSpec.ofChange fnExactAppendDecodeFaultSpec)) fnExactAppendDecodeFaultCard

/-- THE TIED CARD OF 'laws.FnDecodeRoads'. -/
def fnDecodeRoadsCard : Claim7 := { stood := { row := fnDecodeRoadsRow, standIns := [], harness := (true, "73f5c080c259db868223783d9c55b36f394dba367664e4bd59f21cc1a64df631"), looks := true }, kinds := [], alts := [], laidByText := true, laidKinds := [.sentinel], laidTests := true, laidLooks := .later }
def FnDecodeRoadsCardSaid : Prop := Claim7.holds Tryd.pinned (.plain (OpenSpec.ofChange fnDecodeRoadsSpec)) fnDecodeRoadsCard

/-- THE TIED CARD OF 'laws.FnAppendDecodeTwice'. -/
def fnAppendDecodeTwiceCard : Claim7 := { stood := { row := fnAppendDecodeTwiceRow, standIns := [], harness := (true, "73f5c080c259db868223783d9c55b36f394dba367664e4bd59f21cc1a64df631"), looks := true }, kinds := [], alts := [], laidByText := true, laidKinds := [.sentinel], laidTests := true, laidLooks := .later }
def FnAppendDecodeTwiceCardSaid : Prop := Claim7.holds Tryd.pinned (.plain (OpenSpec.ofChange fnAppendDecodeTwiceSpec)) fnAppendDecodeTwiceCard

/-- THE SECOND FORM's CARD OF 'laws.FnDecodeWrong'. -/
def fnDecodeWrongUptoCard : Claim7 := { stood := { row := fnDecodeWrongUptoRow, standIns := [], harness := (true, "73f5c080c259db868223783d9c55b36f394dba367664e4bd59f21cc1a64df631"), looks := true }, kinds := [], alts := [], laidByText := true, laidKinds := [.sentinel], laidTests := true, laidLooks := .later }
def FnDecodeWrongUptoCardSaid : Prop := Claim7.holds Tryd.pinned (.plain (OpenSpec.upto fnDecodeWrongSpec)) fnDecodeWrongUptoCard

/-- THE SECOND FORM's CARD OF 'laws.FnDecodeWrongOdd'. -/
def fnDecodeWrongOddUptoCard : Claim7 := { stood := { row := fnDecodeWrongOddUptoRow, standIns := [], harness := (true, "73f5c080c259db868223783d9c55b36f394dba367664e4bd59f21cc1a64df631"), looks := true }, kinds := [], alts := [], laidByText := true, laidKinds := [.sentinel], laidTests := true, laidLooks := .later }
def FnDecodeWrongOddUptoCardSaid : Prop := Claim7.holds Tryd.pinned (.plain (OpenSpec.upto fnDecodeWrongOddSpec)) fnDecodeWrongOddUptoCard

/-- THE SECOND FORM's CARD OF 'laws.FnDecodeWrongSecond'. -/
def fnDecodeWrongSecondUptoCard : Claim7 := { stood := { row := fnDecodeWrongSecondUptoRow, standIns := [], harness := (true, "73f5c080c259db868223783d9c55b36f394dba367664e4bd59f21cc1a64df631"), looks := true }, kinds := [], alts := [], laidByText := true, laidKinds := [.sentinel], laidTests := true, laidLooks := .later }
def FnDecodeWrongSecondUptoCardSaid : Prop := Claim7.holds Tryd.pinned (.plain (OpenSpec.upto fnDecodeWrongSecondSpec)) fnDecodeWrongSecondUptoCard

/-- THE SECOND FORM's CARD OF 'laws.FnEncodeDecode'. -/
def fnEncodeDecodeUptoCard : Claim7 := { stood := { row := fnEncodeDecodeUptoRow, standIns := [], harness := (true, "73f5c080c259db868223783d9c55b36f394dba367664e4bd59f21cc1a64df631"), looks := true }, kinds := [], alts := [], laidByText := true, laidKinds := [.sentinel], laidTests := true, laidLooks := .later }
def FnEncodeDecodeUptoCardSaid : Prop := Claim7.holds Tryd.pinned (.plain (OpenSpec.upto fnEncodeDecodeSpec)) fnEncodeDecodeUptoCard

/-- THE SECOND FORM's CARD OF 'laws.FnExactDecode'. -/
def fnExactDecodeUptoCard : Claim7 := { stood := { row := fnExactDecodeUptoRow, standIns := [], harness := (true, "73f5c080c259db868223783d9c55b36f394dba367664e4bd59f21cc1a64df631"), looks := true }, kinds := [], alts := [], laidByText := true, laidKinds := [.sentinel], laidTests := true, laidLooks := .later }
def FnExactDecodeUptoCardSaid : Prop := Claim7.holds Tryd.pinned (.plain (OpenSpec.upto fnExactDecodeSpec)) fnExactDecodeUptoCard

/-- THE SECOND FORM's CARD OF 'laws.FnExactDecodeRest'. -/
def fnExactDecodeRestUptoCard : Claim7 := { stood := { row := fnExactDecodeRestUptoRow, standIns := [], harness := (true, "73f5c080c259db868223783d9c55b36f394dba367664e4bd59f21cc1a64df631"), looks := true }, kinds := [], alts := [], laidByText := true, laidKinds := [.sentinel], laidTests := true, laidLooks := .later }
def FnExactDecodeRestUptoCardSaid : Prop := Claim7.holds Tryd.pinned (.plain (OpenSpec.upto fnExactDecodeRestSpec)) fnExactDecodeRestUptoCard

/-- THE SECOND FORM's CARD OF 'laws.FnExactAppendDecode'. -/
def fnExactAppendDecodeUptoCard : Claim7 := { stood := { row := fnExactAppendDecodeUptoRow, standIns := [], harness := (true, "73f5c080c259db868223783d9c55b36f394dba367664e4bd59f21cc1a64df631"), looks := true }, kinds := [], alts := [], laidByText := true, laidKinds := [.sentinel], laidTests := true, laidLooks := .later }
def FnExactAppendDecodeUptoCardSaid : Prop := Claim7.holds Tryd.pinned (.plain (OpenSpec.upto fnExactAppendDecodeSpec)) fnExactAppendDecodeUptoCard

/-- THE SECOND FORM's CARD OF 'laws.FnExactAppendDecodeFault'. -/
def fnExactAppendDecodeFaultUptoCard : Claim7 := { stood := { row := fnExactAppendDecodeFaultUptoRow, standIns := [], harness := (true, "73f5c080c259db868223783d9c55b36f394dba367664e4bd59f21cc1a64df631"), looks := true }, kinds := [], alts := [], laidByText := true, laidKinds := [.sentinel], laidTests := true, laidLooks := .later }
def FnExactAppendDecodeFaultUptoCardSaid : Prop := Claim7.holds Tryd.pinned (.plain (OpenSpec.upto fnExactAppendDecodeFaultSpec)) fnExactAppendDecodeFaultUptoCard

/-- THE SECOND FORM's CARD OF 'laws.FnDecodeRoads'. -/
def fnDecodeRoadsUptoCard : Claim7 := { stood := { row := fnDecodeRoadsUptoRow, standIns := [], harness := (true, "73f5c080c259db868223783d9c55b36f394dba367664e4bd59f21cc1a64df631"), looks := true }, kinds := [], alts := [], laidByText := true, laidKinds := [.sentinel], laidTests := true, laidLooks := .later }
def FnDecodeRoadsUptoCardSaid : Prop := Claim7.holds Tryd.pinned (.plain (OpenSpec.upto fnDecodeRoadsSpec)) fnDecodeRoadsUptoCard

/-- THE SECOND FORM's CARD OF 'laws.FnAppendDecodeTwice'. -/
def fnAppendDecodeTwiceUptoCard : Claim7 := { stood := { row := fnAppendDecodeTwiceUptoRow, standIns := [], harness := (true, "73f5c080c259db868223783d9c55b36f394dba367664e4bd59f21cc1a64df631"), looks := true }, kinds := [], alts := [], laidByText := true, laidKinds := [.sentinel], laidTests := true, laidLooks := .later }
def FnAppendDecodeTwiceUptoCardSaid : Prop := Claim7.holds Tryd.pinned (.plain (OpenSpec.upto fnAppendDecodeTwiceSpec)) fnAppendDecodeTwiceUptoCard
end Rows
end Go.Proofs.YtidbhedmiebdaaaDoor
