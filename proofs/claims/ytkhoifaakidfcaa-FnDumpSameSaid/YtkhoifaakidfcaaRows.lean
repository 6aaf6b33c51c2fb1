/-
  No cell of these rows narrows 'for every input' (looked for: loops, veiled, ifaces, maps, wideKeys, modest, calm, conditions, laid).
  DERIVED. THE GIVEN ROWS OF THIS SEAT. 11 by the template 'for every input the law returns true; each argument reads behind the call as it read before'; 0 by the template 'total and deterministic' (their statements: YtkhoifaakidfcaaTotals.lean).
  GIVEN WITH THE SEED: the statements are not yours to turn. If you find one false, say at which input.
  Laid BY PROGRAM, IN A SANDBOX (cutbox-rows.mjs): the forced cells as the released guide's own fill.sh prints them over the translation b0299c56558d2af1… (all of the seat's roots in one cut). By AI agents, Wed Nov 11 2026. No macro, syntax, notation, axiom, sorry.
-/
import Derived.Test.YtkhoifaakidfcaaChecked
import GoSem.Claim
import GoSem.ClaimJoined
import GoSem.ClaimMapViews
import Derived.JoinedTies
import Derived.KernelRfl
namespace Go.Proofs.Ytkhoifaakidfcaa
/- THE CELL 'sum', in the pinned program and in every row, IS THE sha256 OF THE DUMP (.gsa) THAT YtkhoifaakidfcaaProg.lean LOADS. Nothing in Lean hashes anything: it is a label: what it is worth is what the hold of that sum in a sandbox is worth. -/
noncomputable def Try.pinned : Pinned := { name := "ytkhoifaakidfcaa", sum := "b0299c56558d2af146597464d707d1b24d048cb929c4e1674132b1b7412f1eb9", checked := Try.checked }
namespace Rows
def none {H : Type} : Left H := { results := [], args := [] }

/-- 'laws.FnDumpBytes': WHATEVER THE INPUT: true; the input reads as it did. -/
def fnDumpBytesSpec : ChangeSpec := { name := "fnDumpBytes", fn := fun _ => fun
  | [d] => { results := [.lit (.bool true)], args := [d] }
  | _ => none }
def fnDumpBytesRow : OpenClaim := { program := "ytkhoifaakidfcaa", sum := "b0299c56558d2af146597464d707d1b24d048cb929c4e1674132b1b7412f1eb9", func := "loop.example/lib-hexvarint/laws.FnDumpBytes", spec := "fnDumpBytes", inPlace := ["internal/abi.NoEscape", "internal/bytealg.MakeNoZero"], unfollowed := true, recurses := true, apart := false }
def FnDumpBytesSaid : Prop := fnDumpBytesRow.holds Try.pinned (OpenSpec.ofChange fnDumpBytesSpec)

/-- ITS FALSE NEIGHBOUR: 'it returns false'. Refute it at one input. -/
def fnDumpBytesWrong : ChangeSpec := { name := "fnDumpBytes", fn := fun _ => fun
  | [d] => { results := [.lit (.bool false)], args := [d] }
  | _ => none }
def FnDumpBytesWrongFalsely : Prop := fnDumpBytesRow.holds Try.pinned (OpenSpec.ofChange fnDumpBytesWrong)

/-- 'laws.FnExactDumpParts': WHATEVER THE INPUT: true; the input reads as it did. -/
def fnExactDumpPartsSpec : ChangeSpec := { name := "fnExactDumpParts", fn := fun _ => fun
  | [d] => { results := [.lit (.bool true)], args := [d] }
  | _ => none }
def fnExactDumpPartsRow : OpenClaim := { program := "ytkhoifaakidfcaa", sum := "b0299c56558d2af146597464d707d1b24d048cb929c4e1674132b1b7412f1eb9", func := "loop.example/lib-hexvarint/laws.FnExactDumpParts", spec := "fnExactDumpParts", unfollowed := true, recurses := true, apart := false }
def FnExactDumpPartsSaid : Prop := fnExactDumpPartsRow.holds Try.pinned (OpenSpec.ofChange fnExactDumpPartsSpec)

/-- ITS FALSE NEIGHBOUR: 'it returns false'. Refute it at one input. -/
def fnExactDumpPartsWrong : ChangeSpec := { name := "fnExactDumpParts", fn := fun _ => fun
  | [d] => { results := [.lit (.bool false)], args := [d] }
  | _ => none }
def FnExactDumpPartsWrongFalsely : Prop := fnExactDumpPartsRow.holds Try.pinned (OpenSpec.ofChange fnExactDumpPartsWrong)

/-- 'laws.FnDumpBegins': WHATEVER THE INPUT: true; the input reads as it did. -/
def fnDumpBeginsSpec : ChangeSpec := { name := "fnDumpBegins", fn := fun _ => fun
  | [d1, d2] => { results := [.lit (.bool true)], args := [d1, d2] }
  | _ => none }
def fnDumpBeginsRow : OpenClaim := { program := "ytkhoifaakidfcaa", sum := "b0299c56558d2af146597464d707d1b24d048cb929c4e1674132b1b7412f1eb9", func := "loop.example/lib-hexvarint/laws.FnDumpBegins", spec := "fnDumpBegins", inPlace := ["internal/abi.NoEscape", "internal/bytealg.MakeNoZero"], unfollowed := true, recurses := true, apart := false }
def FnDumpBeginsSaid : Prop := fnDumpBeginsRow.holds Try.pinned (OpenSpec.ofChange fnDumpBeginsSpec)

/-- ITS FALSE NEIGHBOUR: 'it returns false'. Refute it at one input. -/
def fnDumpBeginsWrong : ChangeSpec := { name := "fnDumpBegins", fn := fun _ => fun
  | [d1, d2] => { results := [.lit (.bool false)], args := [d1, d2] }
  | _ => none }
def FnDumpBeginsWrongFalsely : Prop := fnDumpBeginsRow.holds Try.pinned (OpenSpec.ofChange fnDumpBeginsWrong)

/-- 'laws.FnDumpLines': WHATEVER THE INPUT: true; the input reads as it did. -/
def fnDumpLinesSpec : ChangeSpec := { name := "fnDumpLines", fn := fun _ => fun
  | [d] => { results := [.lit (.bool true)], args := [d] }
  | _ => none }
def fnDumpLinesRow : OpenClaim := { program := "ytkhoifaakidfcaa", sum := "b0299c56558d2af146597464d707d1b24d048cb929c4e1674132b1b7412f1eb9", func := "loop.example/lib-hexvarint/laws.FnDumpLines", spec := "fnDumpLines", inPlace := ["internal/abi.NoEscape", "internal/bytealg.MakeNoZero"], unfollowed := true, recurses := true, apart := false }
def FnDumpLinesSaid : Prop := fnDumpLinesRow.holds Try.pinned (OpenSpec.ofChange fnDumpLinesSpec)

/-- ITS FALSE NEIGHBOUR: 'it returns false'. Refute it at one input. -/
def fnDumpLinesWrong : ChangeSpec := { name := "fnDumpLines", fn := fun _ => fun
  | [d] => { results := [.lit (.bool false)], args := [d] }
  | _ => none }
def FnDumpLinesWrongFalsely : Prop := fnDumpLinesRow.holds Try.pinned (OpenSpec.ofChange fnDumpLinesWrong)

/-- 'laws.FnDumpSame': WHATEVER THE INPUT: true; the input reads as it did. -/
def fnDumpSameSpec : ChangeSpec := { name := "fnDumpSame", fn := fun _ => fun
  | [d] => { results := [.lit (.bool true)], args := [d] }
  | _ => none }
def fnDumpSameRow : OpenClaim := { program := "ytkhoifaakidfcaa", sum := "b0299c56558d2af146597464d707d1b24d048cb929c4e1674132b1b7412f1eb9", func := "loop.example/lib-hexvarint/laws.FnDumpSame", spec := "fnDumpSame", inPlace := ["internal/abi.NoEscape", "internal/bytealg.MakeNoZero"], unfollowed := true, recurses := true, apart := false }
def FnDumpSameSaid : Prop := fnDumpSameRow.holds Try.pinned (OpenSpec.ofChange fnDumpSameSpec)

/-- ITS FALSE NEIGHBOUR: 'it returns false'. Refute it at one input. -/
def fnDumpSameWrong : ChangeSpec := { name := "fnDumpSame", fn := fun _ => fun
  | [d] => { results := [.lit (.bool false)], args := [d] }
  | _ => none }
def FnDumpSameWrongFalsely : Prop := fnDumpSameRow.holds Try.pinned (OpenSpec.ofChange fnDumpSameWrong)

/-- 'laws.FnDumpSameAll': WHATEVER THE INPUT: true; the input reads as it did. -/
def fnDumpSameAllSpec : ChangeSpec := { name := "fnDumpSameAll", fn := fun _ => fun
  | [d1, d2] => { results := [.lit (.bool true)], args := [d1, d2] }
  | _ => none }
def fnDumpSameAllRow : OpenClaim := { program := "ytkhoifaakidfcaa", sum := "b0299c56558d2af146597464d707d1b24d048cb929c4e1674132b1b7412f1eb9", func := "loop.example/lib-hexvarint/laws.FnDumpSameAll", spec := "fnDumpSameAll", inPlace := ["internal/abi.NoEscape", "internal/bytealg.MakeNoZero"], unfollowed := true, recurses := true, apart := false }
def FnDumpSameAllSaid : Prop := fnDumpSameAllRow.holds Try.pinned (OpenSpec.ofChange fnDumpSameAllSpec)

/-- ITS FALSE NEIGHBOUR: 'it returns false'. Refute it at one input. -/
def fnDumpSameAllWrong : ChangeSpec := { name := "fnDumpSameAll", fn := fun _ => fun
  | [d1, d2] => { results := [.lit (.bool false)], args := [d1, d2] }
  | _ => none }
def FnDumpSameAllWrongFalsely : Prop := fnDumpSameAllRow.holds Try.pinned (OpenSpec.ofChange fnDumpSameAllWrong)

/-- 'laws.FnDumpShown': WHATEVER THE INPUT: true; the input reads as it did. -/
def fnDumpShownSpec : ChangeSpec := { name := "fnDumpShown", fn := fun _ => fun
  | [d] => { results := [.lit (.bool true)], args := [d] }
  | _ => none }
def fnDumpShownRow : OpenClaim := { program := "ytkhoifaakidfcaa", sum := "b0299c56558d2af146597464d707d1b24d048cb929c4e1674132b1b7412f1eb9", func := "loop.example/lib-hexvarint/laws.FnDumpShown", spec := "fnDumpShown", inPlace := ["internal/abi.NoEscape", "internal/bytealg.MakeNoZero"], unfollowed := true, recurses := true, apart := false }
def FnDumpShownSaid : Prop := fnDumpShownRow.holds Try.pinned (OpenSpec.ofChange fnDumpShownSpec)

/-- ITS FALSE NEIGHBOUR: 'it returns false'. Refute it at one input. -/
def fnDumpShownWrong : ChangeSpec := { name := "fnDumpShown", fn := fun _ => fun
  | [d] => { results := [.lit (.bool false)], args := [d] }
  | _ => none }
def FnDumpShownWrongFalsely : Prop := fnDumpShownRow.holds Try.pinned (OpenSpec.ofChange fnDumpShownWrong)

/-- 'laws.FnExactDump': WHATEVER THE INPUT: true; the input reads as it did. -/
def fnExactDumpSpec : ChangeSpec := { name := "fnExactDump", fn := fun _ => fun
  | [d] => { results := [.lit (.bool true)], args := [d] }
  | _ => none }
def fnExactDumpRow : OpenClaim := { program := "ytkhoifaakidfcaa", sum := "b0299c56558d2af146597464d707d1b24d048cb929c4e1674132b1b7412f1eb9", func := "loop.example/lib-hexvarint/laws.FnExactDump", spec := "fnExactDump", inPlace := ["internal/abi.NoEscape", "internal/bytealg.MakeNoZero"], unfollowed := true, recurses := true, apart := false }
def FnExactDumpSaid : Prop := fnExactDumpRow.holds Try.pinned (OpenSpec.ofChange fnExactDumpSpec)

/-- ITS FALSE NEIGHBOUR: 'it returns false'. Refute it at one input. -/
def fnExactDumpWrong : ChangeSpec := { name := "fnExactDump", fn := fun _ => fun
  | [d] => { results := [.lit (.bool false)], args := [d] }
  | _ => none }
def FnExactDumpWrongFalsely : Prop := fnExactDumpRow.holds Try.pinned (OpenSpec.ofChange fnExactDumpWrong)

/-- 'laws.FnDumpCut': WHATEVER THE INPUT: true; the input reads as it did. -/
def fnDumpCutSpec : ChangeSpec := { name := "fnDumpCut", fn := fun _ => fun
  | [d1, d2] => { results := [.lit (.bool true)], args := [d1, d2] }
  | _ => none }
def fnDumpCutRow : OpenClaim := { program := "ytkhoifaakidfcaa", sum := "b0299c56558d2af146597464d707d1b24d048cb929c4e1674132b1b7412f1eb9", func := "loop.example/lib-hexvarint/laws.FnDumpCut", spec := "fnDumpCut", inPlace := ["internal/abi.NoEscape", "internal/bytealg.MakeNoZero"], unfollowed := true, recurses := true, apart := false }
def FnDumpCutSaid : Prop := fnDumpCutRow.holds Try.pinned (OpenSpec.ofChange fnDumpCutSpec)

/-- ITS FALSE NEIGHBOUR: 'it returns false'. Refute it at one input. -/
def fnDumpCutWrong : ChangeSpec := { name := "fnDumpCut", fn := fun _ => fun
  | [d1, d2] => { results := [.lit (.bool false)], args := [d1, d2] }
  | _ => none }
def FnDumpCutWrongFalsely : Prop := fnDumpCutRow.holds Try.pinned (OpenSpec.ofChange fnDumpCutWrong)

/-- 'laws.FnDumpRoads': WHATEVER THE INPUT: true; the input reads as it did. -/
def fnDumpRoadsSpec : ChangeSpec := { name := "fnDumpRoads", fn := fun _ => fun
  | [d] => { results := [.lit (.bool true)], args := [d] }
  | _ => none }
def fnDumpRoadsRow : OpenClaim := { program := "ytkhoifaakidfcaa", sum := "b0299c56558d2af146597464d707d1b24d048cb929c4e1674132b1b7412f1eb9", func := "loop.example/lib-hexvarint/laws.FnDumpRoads", spec := "fnDumpRoads", inPlace := ["internal/abi.NoEscape", "internal/bytealg.MakeNoZero"], unfollowed := true, recurses := true, apart := false }
def FnDumpRoadsSaid : Prop := fnDumpRoadsRow.holds Try.pinned (OpenSpec.ofChange fnDumpRoadsSpec)

/-- ITS FALSE NEIGHBOUR: 'it returns false'. Refute it at one input. -/
def fnDumpRoadsWrong : ChangeSpec := { name := "fnDumpRoads", fn := fun _ => fun
  | [d] => { results := [.lit (.bool false)], args := [d] }
  | _ => none }
def FnDumpRoadsWrongFalsely : Prop := fnDumpRoadsRow.holds Try.pinned (OpenSpec.ofChange fnDumpRoadsWrong)

/-- 'laws.FnDumpAddress': WHATEVER THE INPUT: true; the input reads as it did. -/
def fnDumpAddressSpec : ChangeSpec := { name := "fnDumpAddress", fn := fun _ => fun
  | [d] => { results := [.lit (.bool true)], args := [d] }
  | _ => none }
def fnDumpAddressRow : OpenClaim := { program := "ytkhoifaakidfcaa", sum := "b0299c56558d2af146597464d707d1b24d048cb929c4e1674132b1b7412f1eb9", func := "loop.example/lib-hexvarint/laws.FnDumpAddress", spec := "fnDumpAddress", inPlace := ["internal/abi.NoEscape", "internal/bytealg.MakeNoZero"], unfollowed := true, recurses := true, apart := false }
def FnDumpAddressSaid : Prop := fnDumpAddressRow.holds Try.pinned (OpenSpec.ofChange fnDumpAddressSpec)

/-- ITS FALSE NEIGHBOUR: 'it returns false'. Refute it at one input. -/
def fnDumpAddressWrong : ChangeSpec := { name := "fnDumpAddress", fn := fun _ => fun
  | [d] => { results := [.lit (.bool false)], args := [d] }
  | _ => none }
def FnDumpAddressWrongFalsely : Prop := fnDumpAddressRow.holds Try.pinned (OpenSpec.ofChange fnDumpAddressWrong)

/- THE SECOND FORM. 'bulk': how many values and letters a reading holds, each counted each time it is reached (what is shared counts as often as it is met; a slice's spare places count too). A statement '..UptoSaid' is the law's where the arguments, and the package variables that the reading takes, are together of bulk at most 1048576: NARROWER than '..Said'. Prove '..Said' where nothing that the law and all that it calls make is longer than what came in: it says more and counts as full. Else prove '..UptoSaid'. A law counts once. -/
mutual
def uptoBulk {H : Type} : DataW H → Nat
  | .lit (.string bytes) => bytes.length + 1
  | .lit _ => 1
  | .nil => 1
  | .ptr d => uptoBulk d + 1
  | .slice elems spare => uptoBulkAll elems + uptoBulkAll spare + 1
  | .agg parts => uptoBulkAll parts + 1
  | .iface _ d => uptoBulk d + 1
  | .map entries => uptoBulkEntries entries + 1
  | .held _ => 1
def uptoBulkAll {H : Type} : List (DataW H) → Nat
  | [] => 0
  | d :: r => uptoBulk d + uptoBulkAll r
def uptoBulkEntries {H : Type} : List (Lit × DataW H) → Nat
  | [] => 0
  | x :: r => uptoBulkEntry x + uptoBulkEntries r
def uptoBulkEntry {H : Type} : Lit × DataW H → Nat
  | (.string bytes, d) => bytes.length + uptoBulk d + 1
  | (_, d) => uptoBulk d + 1
 end
def uptoSmall : (H : Type) → List (DataW H) → Bool := fun _ ds => decide (uptoBulkAll ds ≤ 1048576)
def OpenSpec.upto (s : _root_.Go.ChangeSpec) : _root_.Go.OpenSpec := { _root_.Go.OpenSpec.ofChange s with cond := some uptoSmall }

/-- 'laws.FnDumpBytes', WHERE WHAT IT READS IS OF BULK AT MOST 1048576: true; the input reads as it did. -/
def fnDumpBytesUptoRow : OpenClaim := { program := "ytkhoifaakidfcaa", sum := "b0299c56558d2af146597464d707d1b24d048cb929c4e1674132b1b7412f1eb9", func := "loop.example/lib-hexvarint/laws.FnDumpBytes", spec := "fnDumpBytes", inPlace := ["internal/abi.NoEscape", "internal/bytealg.MakeNoZero"], unfollowed := true, recurses := true, apart := false, narrowed := true }
def FnDumpBytesUptoSaid : Prop := fnDumpBytesUptoRow.holds Try.pinned (OpenSpec.upto fnDumpBytesSpec)

/-- 'laws.FnExactDumpParts', WHERE WHAT IT READS IS OF BULK AT MOST 1048576: true; the input reads as it did. -/
def fnExactDumpPartsUptoRow : OpenClaim := { program := "ytkhoifaakidfcaa", sum := "b0299c56558d2af146597464d707d1b24d048cb929c4e1674132b1b7412f1eb9", func := "loop.example/lib-hexvarint/laws.FnExactDumpParts", spec := "fnExactDumpParts", unfollowed := true, recurses := true, apart := false, narrowed := true }
def FnExactDumpPartsUptoSaid : Prop := fnExactDumpPartsUptoRow.holds Try.pinned (OpenSpec.upto fnExactDumpPartsSpec)

/-- 'laws.FnDumpBegins', WHERE WHAT IT READS IS OF BULK AT MOST 1048576: true; the input reads as it did. -/
def fnDumpBeginsUptoRow : OpenClaim := { program := "ytkhoifaakidfcaa", sum := "b0299c56558d2af146597464d707d1b24d048cb929c4e1674132b1b7412f1eb9", func := "loop.example/lib-hexvarint/laws.FnDumpBegins", spec := "fnDumpBegins", inPlace := ["internal/abi.NoEscape", "internal/bytealg.MakeNoZero"], unfollowed := true, recurses := true, apart := false, narrowed := true }
def FnDumpBeginsUptoSaid : Prop := fnDumpBeginsUptoRow.holds Try.pinned (OpenSpec.upto fnDumpBeginsSpec)

/-- 'laws.FnDumpLines', WHERE WHAT IT READS IS OF BULK AT MOST 1048576: true; the input reads as it did. -/
def fnDumpLinesUptoRow : OpenClaim := { program := "ytkhoifaakidfcaa", sum := "b0299c56558d2af146597464d707d1b24d048cb929c4e1674132b1b7412f1eb9", func := "loop.example/lib-hexvarint/laws.FnDumpLines", spec := "fnDumpLines", inPlace := ["internal/abi.NoEscape", "internal/bytealg.MakeNoZero"], unfollowed := true, recurses := true, apart := false, narrowed := true }
def FnDumpLinesUptoSaid : Prop := fnDumpLinesUptoRow.holds Try.pinned (OpenSpec.upto fnDumpLinesSpec)

/-- 'laws.FnDumpSame', WHERE WHAT IT READS IS OF BULK AT MOST 1048576: true; the input reads as it did. -/
def fnDumpSameUptoRow : OpenClaim := { program := "ytkhoifaakidfcaa", sum := "b0299c56558d2af146597464d707d1b24d048cb929c4e1674132b1b7412f1eb9", func := "loop.example/lib-hexvarint/laws.FnDumpSame", spec := "fnDumpSame", inPlace := ["internal/abi.NoEscape", "internal/bytealg.MakeNoZero"], unfollowed := true, recurses := true, apart := false, narrowed := true }
def FnDumpSameUptoSaid : Prop := fnDumpSameUptoRow.holds Try.pinned (OpenSpec.upto fnDumpSameSpec)

/-- 'laws.FnDumpSameAll', WHERE WHAT IT READS IS OF BULK AT MOST 1048576: true; the input reads as it did. -/
def fnDumpSameAllUptoRow : OpenClaim := { program := "ytkhoifaakidfcaa", sum := "b0299c56558d2af146597464d707d1b24d048cb929c4e1674132b1b7412f1eb9", func := "loop.example/lib-hexvarint/laws.FnDumpSameAll", spec := "fnDumpSameAll", inPlace := ["internal/abi.NoEscape", "internal/bytealg.MakeNoZero"], unfollowed := true, recurses := true, apart := false, narrowed := true }
def FnDumpSameAllUptoSaid : Prop := fnDumpSameAllUptoRow.holds Try.pinned (OpenSpec.upto fnDumpSameAllSpec)

/-- 'laws.FnDumpShown', WHERE WHAT IT READS IS OF BULK AT MOST 1048576: true; the input reads as it did. -/
def fnDumpShownUptoRow : OpenClaim := { program := "ytkhoifaakidfcaa", sum := "b0299c56558d2af146597464d707d1b24d048cb929c4e1674132b1b7412f1eb9", func := "loop.example/lib-hexvarint/laws.FnDumpShown", spec := "fnDumpShown", inPlace := ["internal/abi.NoEscape", "internal/bytealg.MakeNoZero"], unfollowed := true, recurses := true, apart := false, narrowed := true }
def FnDumpShownUptoSaid : Prop := fnDumpShownUptoRow.holds Try.pinned (OpenSpec.upto fnDumpShownSpec)

/-- 'laws.FnExactDump', WHERE WHAT IT READS IS OF BULK AT MOST 1048576: true; the input reads as it did. -/
def fnExactDumpUptoRow : OpenClaim := { program := "ytkhoifaakidfcaa", sum := "b0299c56558d2af146597464d707d1b24d048cb929c4e1674132b1b7412f1eb9", func := "loop.example/lib-hexvarint/laws.FnExactDump", spec := "fnExactDump", inPlace := ["internal/abi.NoEscape", "internal/bytealg.MakeNoZero"], unfollowed := true, recurses := true, apart := false, narrowed := true }
def FnExactDumpUptoSaid : Prop := fnExactDumpUptoRow.holds Try.pinned (OpenSpec.upto fnExactDumpSpec)

/-- 'laws.FnDumpCut', WHERE WHAT IT READS IS OF BULK AT MOST 1048576: true; the input reads as it did. -/
def fnDumpCutUptoRow : OpenClaim := { program := "ytkhoifaakidfcaa", sum := "b0299c56558d2af146597464d707d1b24d048cb929c4e1674132b1b7412f1eb9", func := "loop.example/lib-hexvarint/laws.FnDumpCut", spec := "fnDumpCut", inPlace := ["internal/abi.NoEscape", "internal/bytealg.MakeNoZero"], unfollowed := true, recurses := true, apart := false, narrowed := true }
def FnDumpCutUptoSaid : Prop := fnDumpCutUptoRow.holds Try.pinned (OpenSpec.upto fnDumpCutSpec)

/-- 'laws.FnDumpRoads', WHERE WHAT IT READS IS OF BULK AT MOST 1048576: true; the input reads as it did. -/
def fnDumpRoadsUptoRow : OpenClaim := { program := "ytkhoifaakidfcaa", sum := "b0299c56558d2af146597464d707d1b24d048cb929c4e1674132b1b7412f1eb9", func := "loop.example/lib-hexvarint/laws.FnDumpRoads", spec := "fnDumpRoads", inPlace := ["internal/abi.NoEscape", "internal/bytealg.MakeNoZero"], unfollowed := true, recurses := true, apart := false, narrowed := true }
def FnDumpRoadsUptoSaid : Prop := fnDumpRoadsUptoRow.holds Try.pinned (OpenSpec.upto fnDumpRoadsSpec)

/-- 'laws.FnDumpAddress', WHERE WHAT IT READS IS OF BULK AT MOST 1048576: true; the input reads as it did. -/
def fnDumpAddressUptoRow : OpenClaim := { program := "ytkhoifaakidfcaa", sum := "b0299c56558d2af146597464d707d1b24d048cb929c4e1674132b1b7412f1eb9", func := "loop.example/lib-hexvarint/laws.FnDumpAddress", spec := "fnDumpAddress", inPlace := ["internal/abi.NoEscape", "internal/bytealg.MakeNoZero"], unfollowed := true, recurses := true, apart := false, narrowed := true }
def FnDumpAddressUptoSaid : Prop := fnDumpAddressUptoRow.holds Try.pinned (OpenSpec.upto fnDumpAddressSpec)

end Rows
end Go.Proofs.Ytkhoifaakidfcaa
