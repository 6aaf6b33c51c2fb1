/-
  No cell of these rows narrows 'for every input' (looked for: loops, veiled, ifaces, maps, wideKeys, modest, calm, conditions, laid).
  DERIVED. THE GIVEN ROWS OF THIS SEAT. 7 by the template 'for every input the law returns true; each argument reads behind the call as it read before'; 0 by the template 'total and deterministic' (their statements: YtbjhjiffbegakaaTotals.lean).
  GIVEN WITH THE SEED: the statements are not yours to turn. If you find one false, say at which input.
  Laid BY PROGRAM, IN A SANDBOX (cutbox-rows.mjs): the forced cells as the released guide's own fill.sh prints them over the translation 4d822af36684e88c… (all of the seat's roots in one cut). By AI agents, Wed Nov 11 2026. No macro, syntax, notation, axiom, sorry.
-/
import Derived.Test.YtbjhjiffbegakaaChecked
import GoSem.Claim
import GoSem.ClaimJoined
import GoSem.ClaimMapViews
import Derived.JoinedTies
import Derived.KernelRfl
namespace Go.Proofs.Ytbjhjiffbegakaa
/- THE CELL 'sum', in the pinned program and in every row, IS THE sha256 OF THE DUMP (.gsa) THAT YtbjhjiffbegakaaProg.lean LOADS. Nothing in Lean hashes anything: it is a label: what it is worth is what the hold of that sum in a sandbox is worth. -/
noncomputable def Try.pinned : Pinned := { name := "ytbjhjiffbegakaa", sum := "4d822af36684e88c4ccda4f9b4b08c98ac9ff49a350c0834bda085d9b051d770", checked := Try.checked }
namespace Rows
def none {H : Type} : Left H := { results := [], args := [] }

/-- 'laws.FnExactEncode': WHATEVER THE INPUT: true; the input reads as it did. -/
def fnExactEncodeSpec : ChangeSpec := { name := "fnExactEncode", fn := fun _ => fun
  | [d1, d2] => { results := [.lit (.bool true)], args := [d1, d2] }
  | _ => none }
def fnExactEncodeRow : OpenClaim := { program := "ytbjhjiffbegakaa", sum := "4d822af36684e88c4ccda4f9b4b08c98ac9ff49a350c0834bda085d9b051d770", func := "loop.example/lib-hexvarint/laws.FnExactEncode", spec := "fnExactEncode", apart := false }
def FnExactEncodeSaid : Prop := fnExactEncodeRow.holds Try.pinned (OpenSpec.ofChange fnExactEncodeSpec)

/-- ITS FALSE NEIGHBOUR: 'it returns false'. Refute it at one input. -/
def fnExactEncodeWrong : ChangeSpec := { name := "fnExactEncode", fn := fun _ => fun
  | [d1, d2] => { results := [.lit (.bool false)], args := [d1, d2] }
  | _ => none }
def FnExactEncodeWrongFalsely : Prop := fnExactEncodeRow.holds Try.pinned (OpenSpec.ofChange fnExactEncodeWrong)

/-- 'laws.FnExactEncodeRest': WHATEVER THE INPUT: true; the input reads as it did. -/
def fnExactEncodeRestSpec : ChangeSpec := { name := "fnExactEncodeRest", fn := fun _ => fun
  | [d1, d2] => { results := [.lit (.bool true)], args := [d1, d2] }
  | _ => none }
def fnExactEncodeRestRow : OpenClaim := { program := "ytbjhjiffbegakaa", sum := "4d822af36684e88c4ccda4f9b4b08c98ac9ff49a350c0834bda085d9b051d770", func := "loop.example/lib-hexvarint/laws.FnExactEncodeRest", spec := "fnExactEncodeRest", apart := false }
def FnExactEncodeRestSaid : Prop := fnExactEncodeRestRow.holds Try.pinned (OpenSpec.ofChange fnExactEncodeRestSpec)

/-- ITS FALSE NEIGHBOUR: 'it returns false'. Refute it at one input. -/
def fnExactEncodeRestWrong : ChangeSpec := { name := "fnExactEncodeRest", fn := fun _ => fun
  | [d1, d2] => { results := [.lit (.bool false)], args := [d1, d2] }
  | _ => none }
def FnExactEncodeRestWrongFalsely : Prop := fnExactEncodeRestRow.holds Try.pinned (OpenSpec.ofChange fnExactEncodeRestWrong)

/-- 'laws.FnAppendEncodeTwice': WHATEVER THE INPUT: true; the input reads as it did. -/
def fnAppendEncodeTwiceSpec : ChangeSpec := { name := "fnAppendEncodeTwice", fn := fun _ => fun
  | [d1, d2, d3] => { results := [.lit (.bool true)], args := [d1, d2, d3] }
  | _ => none }
def fnAppendEncodeTwiceRow : OpenClaim := { program := "ytbjhjiffbegakaa", sum := "4d822af36684e88c4ccda4f9b4b08c98ac9ff49a350c0834bda085d9b051d770", func := "loop.example/lib-hexvarint/laws.FnAppendEncodeTwice", spec := "fnAppendEncodeTwice", apart := false }
def FnAppendEncodeTwiceSaid : Prop := fnAppendEncodeTwiceRow.holds Try.pinned (OpenSpec.ofChange fnAppendEncodeTwiceSpec)

/-- ITS FALSE NEIGHBOUR: 'it returns false'. Refute it at one input. -/
def fnAppendEncodeTwiceWrong : ChangeSpec := { name := "fnAppendEncodeTwice", fn := fun _ => fun
  | [d1, d2, d3] => { results := [.lit (.bool false)], args := [d1, d2, d3] }
  | _ => none }
def FnAppendEncodeTwiceWrongFalsely : Prop := fnAppendEncodeTwiceRow.holds Try.pinned (OpenSpec.ofChange fnAppendEncodeTwiceWrong)

/-- 'laws.FnExactAppendEncode': WHATEVER THE INPUT: true; the input reads as it did. -/
def fnExactAppendEncodeSpec : ChangeSpec := { name := "fnExactAppendEncode", fn := fun _ => fun
  | [d1, d2] => { results := [.lit (.bool true)], args := [d1, d2] }
  | _ => none }
def fnExactAppendEncodeRow : OpenClaim := { program := "ytbjhjiffbegakaa", sum := "4d822af36684e88c4ccda4f9b4b08c98ac9ff49a350c0834bda085d9b051d770", func := "loop.example/lib-hexvarint/laws.FnExactAppendEncode", spec := "fnExactAppendEncode", apart := false }
def FnExactAppendEncodeSaid : Prop := fnExactAppendEncodeRow.holds Try.pinned (OpenSpec.ofChange fnExactAppendEncodeSpec)

/-- ITS FALSE NEIGHBOUR: 'it returns false'. Refute it at one input. -/
def fnExactAppendEncodeWrong : ChangeSpec := { name := "fnExactAppendEncode", fn := fun _ => fun
  | [d1, d2] => { results := [.lit (.bool false)], args := [d1, d2] }
  | _ => none }
def FnExactAppendEncodeWrongFalsely : Prop := fnExactAppendEncodeRow.holds Try.pinned (OpenSpec.ofChange fnExactAppendEncodeWrong)

/-- 'laws.FnEncodeRoads': WHATEVER THE INPUT: true; the input reads as it did. -/
def fnEncodeRoadsSpec : ChangeSpec := { name := "fnEncodeRoads", fn := fun _ => fun
  | [d1, d2] => { results := [.lit (.bool true)], args := [d1, d2] }
  | _ => none }
def fnEncodeRoadsRow : OpenClaim := { program := "ytbjhjiffbegakaa", sum := "4d822af36684e88c4ccda4f9b4b08c98ac9ff49a350c0834bda085d9b051d770", func := "loop.example/lib-hexvarint/laws.FnEncodeRoads", spec := "fnEncodeRoads", apart := false }
def FnEncodeRoadsSaid : Prop := fnEncodeRoadsRow.holds Try.pinned (OpenSpec.ofChange fnEncodeRoadsSpec)

/-- ITS FALSE NEIGHBOUR: 'it returns false'. Refute it at one input. -/
def fnEncodeRoadsWrong : ChangeSpec := { name := "fnEncodeRoads", fn := fun _ => fun
  | [d1, d2] => { results := [.lit (.bool false)], args := [d1, d2] }
  | _ => none }
def FnEncodeRoadsWrongFalsely : Prop := fnEncodeRoadsRow.holds Try.pinned (OpenSpec.ofChange fnEncodeRoadsWrong)

/-- 'laws.FnExactEncodeParts': WHATEVER THE INPUT: true; the input reads as it did. -/
def fnExactEncodePartsSpec : ChangeSpec := { name := "fnExactEncodeParts", fn := fun _ => fun
  | [d] => { results := [.lit (.bool true)], args := [d] }
  | _ => none }
def fnExactEncodePartsRow : OpenClaim := { program := "ytbjhjiffbegakaa", sum := "4d822af36684e88c4ccda4f9b4b08c98ac9ff49a350c0834bda085d9b051d770", func := "loop.example/lib-hexvarint/laws.FnExactEncodeParts", spec := "fnExactEncodeParts", unfollowed := true, recurses := true, apart := false }
def FnExactEncodePartsSaid : Prop := fnExactEncodePartsRow.holds Try.pinned (OpenSpec.ofChange fnExactEncodePartsSpec)

/-- ITS FALSE NEIGHBOUR: 'it returns false'. Refute it at one input. -/
def fnExactEncodePartsWrong : ChangeSpec := { name := "fnExactEncodeParts", fn := fun _ => fun
  | [d] => { results := [.lit (.bool false)], args := [d] }
  | _ => none }
def FnExactEncodePartsWrongFalsely : Prop := fnExactEncodePartsRow.holds Try.pinned (OpenSpec.ofChange fnExactEncodePartsWrong)

/-- 'laws.FnPartsRoads': WHATEVER THE INPUT: true; the input reads as it did. -/
def fnPartsRoadsSpec : ChangeSpec := { name := "fnPartsRoads", fn := fun _ => fun
  | [d] => { results := [.lit (.bool true)], args := [d] }
  | _ => none }
def fnPartsRoadsRow : OpenClaim := { program := "ytbjhjiffbegakaa", sum := "4d822af36684e88c4ccda4f9b4b08c98ac9ff49a350c0834bda085d9b051d770", func := "loop.example/lib-hexvarint/laws.FnPartsRoads", spec := "fnPartsRoads", unfollowed := true, recurses := true, apart := false }
def FnPartsRoadsSaid : Prop := fnPartsRoadsRow.holds Try.pinned (OpenSpec.ofChange fnPartsRoadsSpec)

/-- ITS FALSE NEIGHBOUR: 'it returns false'. Refute it at one input. -/
def fnPartsRoadsWrong : ChangeSpec := { name := "fnPartsRoads", fn := fun _ => fun
  | [d] => { results := [.lit (.bool false)], args := [d] }
  | _ => none }
def FnPartsRoadsWrongFalsely : Prop := fnPartsRoadsRow.holds Try.pinned (OpenSpec.ofChange fnPartsRoadsWrong)

/- THE SECOND FORM. 'bulk': how many values and letters a reading holds, each counted each time it is reached (what is shared counts as often as it is met; a slice's spare places count too). A statement '..UptoSaid' is the law's where the arguments, and the package variables that the reading takes, are together of bulk at most 1048576: NARROWER than '..Said'. Prove '..Said' where nothing that the law and all that it calls make is longer than what came in: it says more and counts as full. Else prove '..UptoSaid'. A law counts once. -/
mutual
def uptoBulk {H : Type} : DataW H → Nat
  | .lit (.string bytes) => bytes.length + 1
  | .lit _ => 1
  | .nil => 1
  | .ptr d => uptoBulk d + 1
  | .slice elems spare => uptoBulkAll elems + uptoBulkAll spare + 1
  | .agg parts => uptoBulkAll parts + 1
  | .iface _ d => uptoBulk d + 1
  | .map entries => uptoBulkEntries entries + 1
  | .held _ => 1
def uptoBulkAll {H : Type} : List (DataW H) → Nat
  | [] => 0
  | d :: r => uptoBulk d + uptoBulkAll r
def uptoBulkEntries {H : Type} : List (Lit × DataW H) → Nat
  | [] => 0
  | x :: r => uptoBulkEntry x + uptoBulkEntries r
def uptoBulkEntry {H : Type} : Lit × DataW H → Nat
  | (.string bytes, d) => bytes.length + uptoBulk d + 1
  | (_, d) => uptoBulk d + 1
 end
def uptoSmall : (H : Type) → List (DataW H) → Bool := fun _ ds => decide (uptoBulkAll ds ≤ 1048576)
def OpenSpec.upto (s : _root_.Go.ChangeSpec) : _root_.Go.OpenSpec := { _root_.Go.OpenSpec.ofChange s with cond := some uptoSmall }

/-- 'laws.FnExactEncode', WHERE WHAT IT READS IS OF BULK AT MOST 1048576: true; the input reads as it did. -/
def fnExactEncodeUptoRow : OpenClaim := { program := "ytbjhjiffbegakaa", sum := "4d822af36684e88c4ccda4f9b4b08c98ac9ff49a350c0834bda085d9b051d770", func := "loop.example/lib-hexvarint/laws.FnExactEncode", spec := "fnExactEncode", apart := false, narrowed := true }
def FnExactEncodeUptoSaid : Prop := fnExactEncodeUptoRow.holds Try.pinned (OpenSpec.upto fnExactEncodeSpec)

/-- 'laws.FnExactEncodeRest', WHERE WHAT IT READS IS OF BULK AT MOST 1048576: true; the input reads as it did. -/
def fnExactEncodeRestUptoRow : OpenClaim := { program := "ytbjhjiffbegakaa", sum := "4d822af36684e88c4ccda4f9b4b08c98ac9ff49a350c0834bda085d9b051d770", func := "loop.example/lib-hexvarint/laws.FnExactEncodeRest", spec := "fnExactEncodeRest", apart := false, narrowed := true }
def FnExactEncodeRestUptoSaid : Prop := fnExactEncodeRestUptoRow.holds Try.pinned (OpenSpec.upto fnExactEncodeRestSpec)

/-- 'laws.FnAppendEncodeTwice', WHERE WHAT IT READS IS OF BULK AT MOST 1048576: true; the input reads as it did. -/
def fnAppendEncodeTwiceUptoRow : OpenClaim := { program := "ytbjhjiffbegakaa", sum := "4d822af36684e88c4ccda4f9b4b08c98ac9ff49a350c0834bda085d9b051d770", func := "loop.example/lib-hexvarint/laws.FnAppendEncodeTwice", spec := "fnAppendEncodeTwice", apart := false, narrowed := true }
def FnAppendEncodeTwiceUptoSaid : Prop := fnAppendEncodeTwiceUptoRow.holds Try.pinned (OpenSpec.upto fnAppendEncodeTwiceSpec)

/-- 'laws.FnExactAppendEncode', WHERE WHAT IT READS IS OF BULK AT MOST 1048576: true; the input reads as it did. -/
def fnExactAppendEncodeUptoRow : OpenClaim := { program := "ytbjhjiffbegakaa", sum := "4d822af36684e88c4ccda4f9b4b08c98ac9ff49a350c0834bda085d9b051d770", func := "loop.example/lib-hexvarint/laws.FnExactAppendEncode", spec := "fnExactAppendEncode", apart := false, narrowed := true }
def FnExactAppendEncodeUptoSaid : Prop := fnExactAppendEncodeUptoRow.holds Try.pinned (OpenSpec.upto fnExactAppendEncodeSpec)

/-- 'laws.FnEncodeRoads', WHERE WHAT IT READS IS OF BULK AT MOST 1048576: true; the input reads as it did. -/
def fnEncodeRoadsUptoRow : OpenClaim := { program := "ytbjhjiffbegakaa", sum := "4d822af36684e88c4ccda4f9b4b08c98ac9ff49a350c0834bda085d9b051d770", func := "loop.example/lib-hexvarint/laws.FnEncodeRoads", spec := "fnEncodeRoads", apart := false, narrowed := true }
def FnEncodeRoadsUptoSaid : Prop := fnEncodeRoadsUptoRow.holds Try.pinned (OpenSpec.upto fnEncodeRoadsSpec)

/-- 'laws.FnExactEncodeParts', WHERE WHAT IT READS IS OF BULK AT MOST 1048576: true; the input reads as it did. -/
def fnExactEncodePartsUptoRow : OpenClaim := { program := "ytbjhjiffbegakaa", sum := "4d822af36684e88c4ccda4f9b4b08c98ac9ff49a350c0834bda085d9b051d770", func := "loop.example/lib-hexvarint/laws.FnExactEncodeParts", spec := "fnExactEncodeParts", unfollowed := true, recurses := true, apart := false, narrowed := true }
def FnExactEncodePartsUptoSaid : Prop := fnExactEncodePartsUptoRow.holds Try.pinned (OpenSpec.upto fnExactEncodePartsSpec)

/-- 'laws.FnPartsRoads', WHERE WHAT IT READS IS OF BULK AT MOST 1048576: true; the input reads as it did. -/
def fnPartsRoadsUptoRow : OpenClaim := { program := "ytbjhjiffbegakaa", sum := "4d822af36684e88c4ccda4f9b4b08c98ac9ff49a350c0834bda085d9b051d770", func := "loop.example/lib-hexvarint/laws.FnPartsRoads", spec := "fnPartsRoads", unfollowed := true, recurses := true, apart := false, narrowed := true }
def FnPartsRoadsUptoSaid : Prop := fnPartsRoadsUptoRow.holds Try.pinned (OpenSpec.upto fnPartsRoadsSpec)

end Rows
end Go.Proofs.Ytbjhjiffbegakaa
