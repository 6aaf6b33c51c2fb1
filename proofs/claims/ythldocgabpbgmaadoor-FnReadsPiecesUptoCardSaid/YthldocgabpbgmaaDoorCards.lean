/-
  DERIVED. GIVEN WITH THE SEED: THE CARDS: each row of YthldocgabpbgmaaDoorRows.lean that lists a variable, with what it lists TIED to the program's text (the seventh form; the later family's looks); each row that meets fmt, with fmt's text TOLD by the authors' own Lean function (tested against real Go, not proved from fmt's source: count such statements apart). THE CARD IS WHAT COUNTS. Prove the row's statement (the work); the ties are given (YthldocgabpbgmaaDoorTie.lean); close each card by the builder's one call (the guide's Derived/Test/ToyasCard.lean, 'card_holds'). Laid BY PROGRAM, IN A SANDBOX (cutbox-door.mjs). By AI agents, Wed Nov 11 2026. No macro, syntax, notation, axiom, sorry.
-/
import Derived.Test.YthldocgabpbgmaaDoorRows
import GoSem.ClaimSeven
namespace Go.Proofs.YthldocgabpbgmaaDoor
namespace Rows

/-- THE TIED CARD OF 'laws.FnReadsBegin'. -/
def fnReadsBeginCard : Claim7 := { stood := { row := fnReadsBeginRow, standIns := [], harness := (true, "408393ca2f9109a91cf7bf41d4c6b54a70863bd952835a88b6da1e36f777d4e0"), looks := true }, kinds := [], alts := [], laidByText := true, laidKinds := [.sentinel, .sentinel], laidTests := true, laidLooks := .later }
def FnReadsBeginCardSaid : Prop := Claim7.holds Tryd.pinned (.plain (OpenSpec.ofChange fnReadsBeginSpec)) fnReadsBeginCard

/-- THE TIED CARD OF 'laws.FnReadsEnd'. -/
def fnReadsEndCard : Claim7 := { stood := { row := fnReadsEndRow, standIns := [], harness := (true, "408393ca2f9109a91cf7bf41d4c6b54a70863bd952835a88b6da1e36f777d4e0"), looks := true }, kinds := [], alts := [], laidByText := true, laidKinds := [.sentinel, .sentinel], laidTests := true, laidLooks := .later }
def FnReadsEndCardSaid : Prop := Claim7.holds Tryd.pinned (.plain (OpenSpec.ofChange fnReadsEndSpec)) fnReadsEndCard

/-- THE TIED CARD OF 'laws.FnReadsPieces'. -/
def fnReadsPiecesCard : Claim7 := { stood := { row := fnReadsPiecesRow, standIns := [], harness := (true, "408393ca2f9109a91cf7bf41d4c6b54a70863bd952835a88b6da1e36f777d4e0"), looks := true }, kinds := [], alts := [], laidByText := true, laidKinds := [.sentinel, .sentinel], laidTests := true, laidLooks := .later }
def FnReadsPiecesCardSaid : Prop := Claim7.holds Tryd.pinned (.plain (OpenSpec.ofChange fnReadsPiecesSpec)) fnReadsPiecesCard

/-- THE TIED CARD OF 'laws.FnReadsSome'. -/
def fnReadsSomeCard : Claim7 := { stood := { row := fnReadsSomeRow, standIns := [], harness := (true, "408393ca2f9109a91cf7bf41d4c6b54a70863bd952835a88b6da1e36f777d4e0"), looks := true }, kinds := [], alts := [], laidByText := true, laidKinds := [.sentinel, .sentinel], laidTests := true, laidLooks := .later }
def FnReadsSomeCardSaid : Prop := Claim7.holds Tryd.pinned (.plain (OpenSpec.ofChange fnReadsSomeSpec)) fnReadsSomeCard

/-- THE SECOND FORM's CARD OF 'laws.FnReadsBegin'. -/
def fnReadsBeginUptoCard : Claim7 := { stood := { row := fnReadsBeginUptoRow, standIns := [], harness := (true, "408393ca2f9109a91cf7bf41d4c6b54a70863bd952835a88b6da1e36f777d4e0"), looks := true }, kinds := [], alts := [], laidByText := true, laidKinds := [.sentinel, .sentinel], laidTests := true, laidLooks := .later }
def FnReadsBeginUptoCardSaid : Prop := Claim7.holds Tryd.pinned (.plain (OpenSpec.upto fnReadsBeginSpec)) fnReadsBeginUptoCard

/-- THE SECOND FORM's CARD OF 'laws.FnReadsEnd'. -/
def fnReadsEndUptoCard : Claim7 := { stood := { row := fnReadsEndUptoRow, standIns := [], harness := (true, "408393ca2f9109a91cf7bf41d4c6b54a70863bd952835a88b6da1e36f777d4e0"), looks := true }, kinds := [], alts := [], laidByText := true, laidKinds := [.sentinel, .sentinel], laidTests := true, laidLooks := .later }
def FnReadsEndUptoCardSaid : Prop := Claim7.holds Tryd.pinned (.plain (OpenSpec.upto fnReadsEndSpec)) fnReadsEndUptoCard

/-- THE SECOND FORM's CARD OF 'laws.FnReadsPieces'. -/
def fnReadsPiecesUptoCard : Claim7 := { stood := { row := fnReadsPiecesUptoRow, standIns := [], harness := (true, "408393ca2f9109a91cf7bf41d4c6b54a70863bd952835a88b6da1e36f777d4e0"), looks := true }, kinds := [], alts := [], laidByText := true, laidKinds := [.sentinel, .sentinel], laidTests := true, laidLooks := .later }
def FnReadsPiecesUptoCardSaid : Prop := Claim7.holds Tryd.pinned (.plain (OpenSpec.upto fnReadsPiecesSpec)) fnReadsPiecesUptoCard

/-- THE SECOND FORM's CARD OF 'laws.FnReadsSome'. -/
def fnReadsSomeUptoCard : Claim7 := { stood := { row := fnReadsSomeUptoRow, standIns := [], harness := (true, "408393ca2f9109a91cf7bf41d4c6b54a70863bd952835a88b6da1e36f777d4e0"), looks := true }, kinds := [], alts := [], laidByText := true, laidKinds := [.sentinel, .sentinel], laidTests := true, laidLooks := .later }
def FnReadsSomeUptoCardSaid : Prop := Claim7.holds Tryd.pinned (.plain (OpenSpec.upto fnReadsSomeSpec)) fnReadsSomeUptoCard
end Rows
end Go.Proofs.YthldocgabpbgmaaDoor
