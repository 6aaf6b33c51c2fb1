/-
  DERIVED. GIVEN WITH THE SEED: THE CARDS: each row of YtmhhhigkgfcmpaaDoorRows.lean that lists a variable, with what it lists TIED to the program's text (the seventh form; the later family's looks); each row that meets fmt, with fmt's text TOLD by the authors' own Lean function (tested against real Go, not proved from fmt's source: count such statements apart). THE CARD IS WHAT COUNTS. Prove the row's statement (the work); the ties are given (YtmhhhigkgfcmpaaDoorTie.lean); close each card by the builder's one call (the guide's Derived/Test/ToyasCard.lean, 'card_holds'). Laid BY PROGRAM, IN A SANDBOX (cutbox-door.mjs). By AI agents, Wed Nov 11 2026. No macro, syntax, notation, axiom, sorry.
-/
import Derived.Test.YtmhhhigkgfcmpaaDoorRows
import GoSem.ClaimSeven
namespace Go.Proofs.YtmhhhigkgfcmpaaDoor
namespace Rows

/-- THE TIED CARD OF 'laws.FnDecodeGood'. -/
def fnDecodeGoodCard : Claim7 := { stood := { row := fnDecodeGoodRow, standIns := [], harness := (true, "3cfb1ca371dd8de6e4644feb91ddab3d713e2290f3c60da0d8cb6ae08501db26"), looks := true }, kinds := [], alts := [], laidByText := true, laidKinds := [.sentinel], laidTests := true, laidLooks := .later }
def FnDecodeGoodCardSaid : Prop := Claim7.holds Tryd.pinned (.plain (OpenSpec.ofChange fnDecodeGoodSpec)) fnDecodeGoodCard

/-- THE TIED CARD OF 'laws.FnDecodeJoin'. -/
def fnDecodeJoinCard : Claim7 := { stood := { row := fnDecodeJoinRow, standIns := [], harness := (true, "3cfb1ca371dd8de6e4644feb91ddab3d713e2290f3c60da0d8cb6ae08501db26"), looks := true }, kinds := [], alts := [], laidByText := true, laidKinds := [.sentinel], laidTests := true, laidLooks := .later }
def FnDecodeJoinCardSaid : Prop := Claim7.holds Tryd.pinned (.plain (OpenSpec.ofChange fnDecodeJoinSpec)) fnDecodeJoinCard

/-- THE TIED CARD OF 'laws.FnDecodeKeeps'. -/
def fnDecodeKeepsCard : Claim7 := { stood := { row := fnDecodeKeepsRow, standIns := [], harness := (true, "3cfb1ca371dd8de6e4644feb91ddab3d713e2290f3c60da0d8cb6ae08501db26"), looks := true }, kinds := [], alts := [], laidByText := true, laidKinds := [.sentinel], laidTests := true, laidLooks := .later }
def FnDecodeKeepsCardSaid : Prop := Claim7.holds Tryd.pinned (.plain (OpenSpec.ofChange fnDecodeKeepsSpec)) fnDecodeKeepsCard

/-- THE TIED CARD OF 'laws.FnDecodeStops'. -/
def fnDecodeStopsCard : Claim7 := { stood := { row := fnDecodeStopsRow, standIns := [], harness := (true, "3cfb1ca371dd8de6e4644feb91ddab3d713e2290f3c60da0d8cb6ae08501db26"), looks := true }, kinds := [], alts := [], laidByText := true, laidKinds := [.sentinel], laidTests := true, laidLooks := .later }
def FnDecodeStopsCardSaid : Prop := Claim7.holds Tryd.pinned (.plain (OpenSpec.ofChange fnDecodeStopsSpec)) fnDecodeStopsCard

/-- THE TIED CARD OF 'laws.FnExactDecodeFault'. -/
def fnExactDecodeFaultCard : Claim7 := { stood := { row := fnExactDecodeFaultRow, standIns := [], harness := (true, "3cfb1ca371dd8de6e4644feb91ddab3d713e2290f3c60da0d8cb6ae08501db26"), looks := true }, kinds := [], alts := [], laidByText := true, laidKinds := [.sentinel], laidTests := true, laidLooks := .later }
def FnExactDecodeFaultCardSaid : Prop := Claim7.holds Tryd.pinned (.plain (OpenSpec.ofChange fnExactDecodeFaultSpec)) fnExactDecodeFaultCard

/-- THE TIED CARD OF 'laws.FnExactDecodeString'. -/
def fnExactDecodeStringCard : Claim7 := { stood := { row := fnExactDecodeStringRow, standIns := [], harness := (true, "3cfb1ca371dd8de6e4644feb91ddab3d713e2290f3c60da0d8cb6ae08501db26"), looks := true }, kinds := [], alts := [], laidByText := true, laidKinds := [.sentinel], laidTests := true, laidLooks := .later }
def FnExactDecodeStringCardSaid : Prop := Claim7.holds Tryd.pinned (.plain (OpenSpec.ofChange fnExactDecodeStringSpec)) fnExactDecodeStringCard

/-- THE TIED CARD OF 'laws.FnDecodeBegins'. -/
def fnDecodeBeginsCard : Claim7 := { stood := { row := fnDecodeBeginsRow, standIns := [], harness := (true, "3cfb1ca371dd8de6e4644feb91ddab3d713e2290f3c60da0d8cb6ae08501db26"), looks := true }, kinds := [], alts := [], laidByText := true, laidKinds := [.sentinel], laidTests := true, laidLooks := .later }
def FnDecodeBeginsCardSaid : Prop := Claim7.holds Tryd.pinned (.plain (OpenSpec.ofChange fnDecodeBeginsSpec)) fnDecodeBeginsCard

/-- THE TIED CARD OF 'laws.FnDecodeEncode'. -/
def fnDecodeEncodeCard : Claim7 := { stood := { row := fnDecodeEncodeRow, standIns := [], harness := (true, "3cfb1ca371dd8de6e4644feb91ddab3d713e2290f3c60da0d8cb6ae08501db26"), looks := true }, kinds := [], alts := [], laidByText := true, laidKinds := [.sentinel], laidTests := true, laidLooks := .later }
def FnDecodeEncodeCardSaid : Prop := Claim7.holds Tryd.pinned (.plain (OpenSpec.ofChange fnDecodeEncodeSpec)) fnDecodeEncodeCard

/-- THE TIED CARD OF 'laws.FnDecodeEncodeAll'. -/
def fnDecodeEncodeAllCard : Claim7 := { stood := { row := fnDecodeEncodeAllRow, standIns := [], harness := (true, "3cfb1ca371dd8de6e4644feb91ddab3d713e2290f3c60da0d8cb6ae08501db26"), looks := true }, kinds := [], alts := [], laidByText := true, laidKinds := [.sentinel], laidTests := true, laidLooks := .later }
def FnDecodeEncodeAllCardSaid : Prop := Claim7.holds Tryd.pinned (.plain (OpenSpec.ofChange fnDecodeEncodeAllSpec)) fnDecodeEncodeAllCard

/-- THE TIED CARD OF 'laws.FnDecodeJoinAll'. -/
def fnDecodeJoinAllCard : Claim7 := { stood := { row := fnDecodeJoinAllRow, standIns := [], harness := (true, "3cfb1ca371dd8de6e4644feb91ddab3d713e2290f3c60da0d8cb6ae08501db26"), looks := true }, kinds := [], alts := [], laidByText := true, laidKinds := [.sentinel], laidTests := true, laidLooks := .later }
def FnDecodeJoinAllCardSaid : Prop := Claim7.holds Tryd.pinned (.plain (OpenSpec.ofChange fnDecodeJoinAllSpec)) fnDecodeJoinAllCard

/-- THE TIED CARD OF 'laws.FnDecodeOdd'. -/
def fnDecodeOddCard : Claim7 := { stood := { row := fnDecodeOddRow, standIns := [], harness := (true, "3cfb1ca371dd8de6e4644feb91ddab3d713e2290f3c60da0d8cb6ae08501db26"), looks := true }, kinds := [], alts := [], laidByText := true, laidKinds := [.sentinel], laidTests := true, laidLooks := .later }
def FnDecodeOddCardSaid : Prop := Claim7.holds Tryd.pinned (.plain (OpenSpec.ofChange fnDecodeOddSpec)) fnDecodeOddCard

/-- THE TIED CARD OF 'laws.FnDecodeUpper'. -/
def fnDecodeUpperCard : Claim7 := { stood := { row := fnDecodeUpperRow, standIns := [], harness := (true, "3cfb1ca371dd8de6e4644feb91ddab3d713e2290f3c60da0d8cb6ae08501db26"), looks := true }, kinds := [], alts := [], laidByText := true, laidKinds := [.sentinel], laidTests := true, laidLooks := .later }
def FnDecodeUpperCardSaid : Prop := Claim7.holds Tryd.pinned (.plain (OpenSpec.ofChange fnDecodeUpperSpec)) fnDecodeUpperCard

/-- THE SECOND FORM's CARD OF 'laws.FnDecodeGood'. -/
def fnDecodeGoodUptoCard : Claim7 := { stood := { row := fnDecodeGoodUptoRow, standIns := [], harness := (true, "3cfb1ca371dd8de6e4644feb91ddab3d713e2290f3c60da0d8cb6ae08501db26"), looks := true }, kinds := [], alts := [], laidByText := true, laidKinds := [.sentinel], laidTests := true, laidLooks := .later }
def FnDecodeGoodUptoCardSaid : Prop := Claim7.holds Tryd.pinned (.plain (OpenSpec.upto fnDecodeGoodSpec)) fnDecodeGoodUptoCard

/-- THE SECOND FORM's CARD OF 'laws.FnDecodeJoin'. -/
def fnDecodeJoinUptoCard : Claim7 := { stood := { row := fnDecodeJoinUptoRow, standIns := [], harness := (true, "3cfb1ca371dd8de6e4644feb91ddab3d713e2290f3c60da0d8cb6ae08501db26"), looks := true }, kinds := [], alts := [], laidByText := true, laidKinds := [.sentinel], laidTests := true, laidLooks := .later }
def FnDecodeJoinUptoCardSaid : Prop := Claim7.holds Tryd.pinned (.plain (OpenSpec.upto fnDecodeJoinSpec)) fnDecodeJoinUptoCard

/-- THE SECOND FORM's CARD OF 'laws.FnDecodeKeeps'. -/
def fnDecodeKeepsUptoCard : Claim7 := { stood := { row := fnDecodeKeepsUptoRow, standIns := [], harness := (true, "3cfb1ca371dd8de6e4644feb91ddab3d713e2290f3c60da0d8cb6ae08501db26"), looks := true }, kinds := [], alts := [], laidByText := true, laidKinds := [.sentinel], laidTests := true, laidLooks := .later }
def FnDecodeKeepsUptoCardSaid : Prop := Claim7.holds Tryd.pinned (.plain (OpenSpec.upto fnDecodeKeepsSpec)) fnDecodeKeepsUptoCard

/-- THE SECOND FORM's CARD OF 'laws.FnDecodeStops'. -/
def fnDecodeStopsUptoCard : Claim7 := { stood := { row := fnDecodeStopsUptoRow, standIns := [], harness := (true, "3cfb1ca371dd8de6e4644feb91ddab3d713e2290f3c60da0d8cb6ae08501db26"), looks := true }, kinds := [], alts := [], laidByText := true, laidKinds := [.sentinel], laidTests := true, laidLooks := .later }
def FnDecodeStopsUptoCardSaid : Prop := Claim7.holds Tryd.pinned (.plain (OpenSpec.upto fnDecodeStopsSpec)) fnDecodeStopsUptoCard

/-- THE SECOND FORM's CARD OF 'laws.FnExactDecodeFault'. -/
def fnExactDecodeFaultUptoCard : Claim7 := { stood := { row := fnExactDecodeFaultUptoRow, standIns := [], harness := (true, "3cfb1ca371dd8de6e4644feb91ddab3d713e2290f3c60da0d8cb6ae08501db26"), looks := true }, kinds := [], alts := [], laidByText := true, laidKinds := [.sentinel], laidTests := true, laidLooks := .later }
def FnExactDecodeFaultUptoCardSaid : Prop := Claim7.holds Tryd.pinned (.plain (OpenSpec.upto fnExactDecodeFaultSpec)) fnExactDecodeFaultUptoCard

/-- THE SECOND FORM's CARD OF 'laws.FnExactDecodeString'. -/
def fnExactDecodeStringUptoCard : Claim7 := { stood := { row := fnExactDecodeStringUptoRow, standIns := [], harness := (true, "3cfb1ca371dd8de6e4644feb91ddab3d713e2290f3c60da0d8cb6ae08501db26"), looks := true }, kinds := [], alts := [], laidByText := true, laidKinds := [.sentinel], laidTests := true, laidLooks := .later }
def FnExactDecodeStringUptoCardSaid : Prop := Claim7.holds Tryd.pinned (.plain (OpenSpec.upto fnExactDecodeStringSpec)) fnExactDecodeStringUptoCard

/-- THE SECOND FORM's CARD OF 'laws.FnDecodeBegins'. -/
def fnDecodeBeginsUptoCard : Claim7 := { stood := { row := fnDecodeBeginsUptoRow, standIns := [], harness := (true, "3cfb1ca371dd8de6e4644feb91ddab3d713e2290f3c60da0d8cb6ae08501db26"), looks := true }, kinds := [], alts := [], laidByText := true, laidKinds := [.sentinel], laidTests := true, laidLooks := .later }
def FnDecodeBeginsUptoCardSaid : Prop := Claim7.holds Tryd.pinned (.plain (OpenSpec.upto fnDecodeBeginsSpec)) fnDecodeBeginsUptoCard

/-- THE SECOND FORM's CARD OF 'laws.FnDecodeEncode'. -/
def fnDecodeEncodeUptoCard : Claim7 := { stood := { row := fnDecodeEncodeUptoRow, standIns := [], harness := (true, "3cfb1ca371dd8de6e4644feb91ddab3d713e2290f3c60da0d8cb6ae08501db26"), looks := true }, kinds := [], alts := [], laidByText := true, laidKinds := [.sentinel], laidTests := true, laidLooks := .later }
def FnDecodeEncodeUptoCardSaid : Prop := Claim7.holds Tryd.pinned (.plain (OpenSpec.upto fnDecodeEncodeSpec)) fnDecodeEncodeUptoCard

/-- THE SECOND FORM's CARD OF 'laws.FnDecodeEncodeAll'. -/
def fnDecodeEncodeAllUptoCard : Claim7 := { stood := { row := fnDecodeEncodeAllUptoRow, standIns := [], harness := (true, "3cfb1ca371dd8de6e4644feb91ddab3d713e2290f3c60da0d8cb6ae08501db26"), looks := true }, kinds := [], alts := [], laidByText := true, laidKinds := [.sentinel], laidTests := true, laidLooks := .later }
def FnDecodeEncodeAllUptoCardSaid : Prop := Claim7.holds Tryd.pinned (.plain (OpenSpec.upto fnDecodeEncodeAllSpec)) fnDecodeEncodeAllUptoCard

/-- THE SECOND FORM's CARD OF 'laws.FnDecodeJoinAll'. -/
def fnDecodeJoinAllUptoCard : Claim7 := { stood := { row := fnDecodeJoinAllUptoRow, standIns := [], harness := (true, "3cfb1ca371dd8de6e4644feb91ddab3d713e2290f3c60da0d8cb6ae08501db26"), looks := true }, kinds := [], alts := [], laidByText := true, laidKinds := [.sentinel], laidTests := true, laidLooks := .later }
def FnDecodeJoinAllUptoCardSaid : Prop := Claim7.holds Tryd.pinned (.plain (OpenSpec.upto fnDecodeJoinAllSpec)) fnDecodeJoinAllUptoCard

/-- THE SECOND FORM's CARD OF 'laws.FnDecodeOdd'. -/
def fnDecodeOddUptoCard : Claim7 := { stood := { row := fnDecodeOddUptoRow, standIns := [], harness := (true, "3cfb1ca371dd8de6e4644feb91ddab3d713e2290f3c60da0d8cb6ae08501db26"), looks := true }, kinds := [], alts := [], laidByText := true, laidKinds := [.sentinel], laidTests := true, laidLooks := .later }
def FnDecodeOddUptoCardSaid : Prop := Claim7.holds Tryd.pinned (.plain (OpenSpec.upto fnDecodeOddSpec)) fnDecodeOddUptoCard

/-- THE SECOND FORM's CARD OF 'laws.FnDecodeUpper'. -/
def fnDecodeUpperUptoCard : Claim7 := { stood := { row := fnDecodeUpperUptoRow, standIns := [], harness := (true, "3cfb1ca371dd8de6e4644feb91ddab3d713e2290f3c60da0d8cb6ae08501db26"), looks := true }, kinds := [], alts := [], laidByText := true, laidKinds := [.sentinel], laidTests := true, laidLooks := .later }
def FnDecodeUpperUptoCardSaid : Prop := Claim7.holds Tryd.pinned (.plain (OpenSpec.upto fnDecodeUpperSpec)) fnDecodeUpperUptoCard
end Rows
end Go.Proofs.YtmhhhigkgfcmpaaDoor
