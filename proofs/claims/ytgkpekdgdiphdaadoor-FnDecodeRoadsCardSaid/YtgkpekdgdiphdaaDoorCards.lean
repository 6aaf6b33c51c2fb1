/-
  DERIVED. GIVEN WITH THE SEED: THE CARDS: each row of YtgkpekdgdiphdaaDoorRows.lean that lists a variable, with what it lists TIED to the program's text (the seventh form; the later family's looks); each row that meets fmt, with fmt's text TOLD by the authors' own Lean function (tested against real Go, not proved from fmt's source: count such statements apart). THE CARD IS WHAT COUNTS. Prove the row's statement (the work); the ties are given (YtgkpekdgdiphdaaDoorTie.lean); close each card by the builder's one call (the guide's Derived/Test/ToyasCard.lean, 'card_holds'). Laid BY PROGRAM, IN A SANDBOX (cutbox-door.mjs). By AI agents, Wed Nov 11 2026. No macro, syntax, notation, axiom, sorry.
-/
import Derived.Test.YtgkpekdgdiphdaaDoorRows
import GoSem.ClaimSeven
namespace Go.Proofs.YtgkpekdgdiphdaaDoor
namespace Rows

/-- THE TIED CARD OF 'laws.FnDecodeJoinAll'. -/
def fnDecodeJoinAllCard : Claim7 := { stood := { row := fnDecodeJoinAllRow, standIns := [], harness := (true, "5a62d4ec8e904e47503c46d744e455a84c63b9453d1dfdec8c0b94ea9ced7ed9"), looks := true }, kinds := [], alts := [], laidByText := true, laidKinds := [.sentinel], laidTests := true, laidLooks := .later }
def FnDecodeJoinAllCardSaid : Prop := Claim7.holds Tryd.pinned (.plain (OpenSpec.ofChange fnDecodeJoinAllSpec)) fnDecodeJoinAllCard

/-- THE TIED CARD OF 'laws.FnExactAppendDecode'. -/
def fnExactAppendDecodeCard : Claim7 := { stood := { row := fnExactAppendDecodeRow, standIns := [], harness := (true, "5a62d4ec8e904e47503c46d744e455a84c63b9453d1dfdec8c0b94ea9ced7ed9"), looks := true }, kinds := [], alts := [], laidByText := true, laidKinds := [.sentinel], laidTests := true, laidLooks := .later }
def FnExactAppendDecodeCardSaid : Prop := Claim7.holds Tryd.pinned (.plain (OpenSpec.ofChange fnExactAppendDecodeSpec)) fnExactAppendDecodeCard

/-- THE TIED CARD OF 'laws.FnExactAppendDecodeFault'. -/
def fnExactAppendDecodeFaultCard : Claim7 := { stood := { row := fnExactAppendDecodeFaultRow, standIns := [], harness := (true, "5a62d4ec8e904e47503c46d744e455a84c63b9453d1dfdec8c0b94ea9ced7ed9"), looks := true }, kinds := [], alts := [], laidByText := true, laidKinds := [.sentinel], laidTests := true, laidLooks := .later }
def FnExactAppendDecodeFaultCardSaid : Prop := Claim7.holds Tryd.pinned (.plain (OpenSpec.ofChange fnExactAppendDecodeFaultSpec)) fnExactAppendDecodeFaultCard

/-- THE TIED CARD OF 'laws.FnDecodeRoads'. -/
def fnDecodeRoadsCard : Claim7 := { stood := { row := fnDecodeRoadsRow, standIns := [], harness := (true, "5a62d4ec8e904e47503c46d744e455a84c63b9453d1dfdec8c0b94ea9ced7ed9"), looks := true }, kinds := [], alts := [], laidByText := true, laidKinds := [.sentinel], laidTests := true, laidLooks := .later }
def FnDecodeRoadsCardSaid : Prop := Claim7.holds Tryd.pinned (.plain (OpenSpec.ofChange fnDecodeRoadsSpec)) fnDecodeRoadsCard

/-- THE SECOND FORM's CARD OF 'laws.FnDecodeJoinAll'. -/
def fnDecodeJoinAllUptoCard : Claim7 := { stood := { row := fnDecodeJoinAllUptoRow, standIns := [], harness := (true, "5a62d4ec8e904e47503c46d744e455a84c63b9453d1dfdec8c0b94ea9ced7ed9"), looks := true }, kinds := [], alts := [], laidByText := true, laidKinds := [.sentinel], laidTests := true, laidLooks := .later }
def FnDecodeJoinAllUptoCardSaid : Prop := Claim7.holds Tryd.pinned (.plain (OpenSpec.upto fnDecodeJoinAllSpec)) fnDecodeJoinAllUptoCard

/-- THE SECOND FORM's CARD OF 'laws.FnExactAppendDecode'. -/
def fnExactAppendDecodeUptoCard : Claim7 := { stood := { row := fnExactAppendDecodeUptoRow, standIns := [], harness := (true, "5a62d4ec8e904e47503c46d744e455a84c63b9453d1dfdec8c0b94ea9ced7ed9"), looks := true }, kinds := [], alts := [], laidByText := true, laidKinds := [.sentinel], laidTests := true, laidLooks := .later }
def FnExactAppendDecodeUptoCardSaid : Prop := Claim7.holds Tryd.pinned (.plain (OpenSpec.upto fnExactAppendDecodeSpec)) fnExactAppendDecodeUptoCard

/-- THE SECOND FORM's CARD OF 'laws.FnExactAppendDecodeFault'. -/
def fnExactAppendDecodeFaultUptoCard : Claim7 := { stood := { row := fnExactAppendDecodeFaultUptoRow, standIns := [], harness := (true, "5a62d4ec8e904e47503c46d744e455a84c63b9453d1dfdec8c0b94ea9ced7ed9"), looks := true }, kinds := [], alts := [], laidByText := true, laidKinds := [.sentinel], laidTests := true, laidLooks := .later }
def FnExactAppendDecodeFaultUptoCardSaid : Prop := Claim7.holds Tryd.pinned (.plain (OpenSpec.upto fnExactAppendDecodeFaultSpec)) fnExactAppendDecodeFaultUptoCard

/-- THE SECOND FORM's CARD OF 'laws.FnDecodeRoads'. -/
def fnDecodeRoadsUptoCard : Claim7 := { stood := { row := fnDecodeRoadsUptoRow, standIns := [], harness := (true, "5a62d4ec8e904e47503c46d744e455a84c63b9453d1dfdec8c0b94ea9ced7ed9"), looks := true }, kinds := [], alts := [], laidByText := true, laidKinds := [.sentinel], laidTests := true, laidLooks := .later }
def FnDecodeRoadsUptoCardSaid : Prop := Claim7.holds Tryd.pinned (.plain (OpenSpec.upto fnDecodeRoadsSpec)) fnDecodeRoadsUptoCard
end Rows
end Go.Proofs.YtgkpekdgdiphdaaDoor
