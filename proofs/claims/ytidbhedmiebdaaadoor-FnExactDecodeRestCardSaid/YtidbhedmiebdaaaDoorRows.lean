/-
  NARROWER THAN 'FOR EVERY INPUT', by the rows' own cells (each row's printed sentence says how): FnDecodeWrong: laid · FnDecodeWrongOdd: laid · FnDecodeWrongSecond: laid · FnEncodeDecode: laid · FnExactDecode: laid · FnExactDecodeRest: laid · FnExactAppendDecode: laid · FnExactAppendDecodeFault: laid · FnDecodeRoads: laid · FnAppendDecodeTwice: laid.
  DERIVED. THE GIVEN ROWS OF THIS SEAT. 10 by the template 'for every input the law returns true; each argument reads behind the call as it read before'; 0 by the template 'total and deterministic' (their statements: YtidbhedmiebdaaaDoorTotals.lean).
  GIVEN WITH THE SEED: the statements are not yours to turn. If you find one false, say at which input.
  Laid BY PROGRAM, IN A SANDBOX (cutbox-rows.mjs): the forced cells as the released guide's own fill.sh prints them over the translation 731ce4f414673250… (all of the seat's roots in one cut). By AI agents, Wed Nov 11 2026. No macro, syntax, notation, axiom, sorry.
-/
import Derived.Test.YtidbhedmiebdaaaDoorChecked
import GoSem.Claim
import GoSem.ClaimJoined
import GoSem.ClaimMapViews
import Derived.JoinedTies
import Derived.KernelRfl
namespace Go.Proofs.YtidbhedmiebdaaaDoor
/- THE CELL 'sum', in the pinned program and in every row, IS THE sha256 OF THE DUMP (.gsa) THAT YtidbhedmiebdaaaDoorProg.lean LOADS. Nothing in Lean hashes anything: it is a label: what it is worth is what the hold of that sum in a sandbox is worth. -/
noncomputable def Tryd.pinned : Pinned := { name := "ytidbhedmiebdaaadoor", sum := "731ce4f414673250927cf7d16e6cb4769bb5aec57b2fbb64526c5712b6a9d6cb", checked := Tryd.checked }
namespace Rows
def none {H : Type} : Left H := { results := [], args := [] }

/- WHAT THE LISTED PACKAGE-LEVEL VARIABLES READ AS WHEN THE CALL BEGINS. Each datum BY PROGRAM (the guide's laid-datum.mjs) off the statement by which the dump's own 'gosem.cut.vars' lays the variable. In a bare row this is a premise. The card (YtidbhedmiebdaaaDoorCards.lean) ties it to the program's text. -/
def laid_encoding_hex_ErrLength {H : Type} : DataW H := .iface "*errors.errorString" (.ptr (.agg [.lit (.string [101, 110, 99, 111, 100, 105, 110, 103, 47, 104, 101, 120, 58, 32, 111, 100, 100, 32, 108, 101, 110, 103, 116, 104, 32, 104, 101, 120, 32, 115, 116, 114, 105, 110, 103])]))

/-- 'laws.FnDecodeWrong': WHATEVER THE INPUT: true; the input reads as it did. -/
def fnDecodeWrongSpec : ChangeSpec := { name := "fnDecodeWrong", fn := fun _ => fun
  | [d1, d2, d3] => { results := [.lit (.bool true)], args := [d1, d2, d3] }
  | _ => none }
def fnDecodeWrongRow : OpenClaim := { program := "ytidbhedmiebdaaadoor", sum := "731ce4f414673250927cf7d16e6cb4769bb5aec57b2fbb64526c5712b6a9d6cb", func := "loop.example/lib-hexvarint/laws.FnDecodeWrong", spec := "fnDecodeWrong", named := ["encoding/hex.ErrLength"], apart := false, laid := [("encoding/hex.ErrLength", laid_encoding_hex_ErrLength)] }
def FnDecodeWrongSaid : Prop := fnDecodeWrongRow.holds Tryd.pinned (OpenSpec.ofChange fnDecodeWrongSpec)

/-- ITS FALSE NEIGHBOUR: 'it returns false'. Refute it at one input. -/
def fnDecodeWrongWrong : ChangeSpec := { name := "fnDecodeWrong", fn := fun _ => fun
  | [d1, d2, d3] => { results := [.lit (.bool false)], args := [d1, d2, d3] }
  | _ => none }
def FnDecodeWrongWrongFalsely : Prop := fnDecodeWrongRow.holds Tryd.pinned (OpenSpec.ofChange fnDecodeWrongWrong)

/-- 'laws.FnDecodeWrongOdd': WHATEVER THE INPUT: true; the input reads as it did. -/
def fnDecodeWrongOddSpec : ChangeSpec := { name := "fnDecodeWrongOdd", fn := fun _ => fun
  | [d1, d2, d3] => { results := [.lit (.bool true)], args := [d1, d2, d3] }
  | _ => none }
def fnDecodeWrongOddRow : OpenClaim := { program := "ytidbhedmiebdaaadoor", sum := "731ce4f414673250927cf7d16e6cb4769bb5aec57b2fbb64526c5712b6a9d6cb", func := "loop.example/lib-hexvarint/laws.FnDecodeWrongOdd", spec := "fnDecodeWrongOdd", named := ["encoding/hex.ErrLength"], apart := false, laid := [("encoding/hex.ErrLength", laid_encoding_hex_ErrLength)] }
def FnDecodeWrongOddSaid : Prop := fnDecodeWrongOddRow.holds Tryd.pinned (OpenSpec.ofChange fnDecodeWrongOddSpec)

/-- ITS FALSE NEIGHBOUR: 'it returns false'. Refute it at one input. -/
def fnDecodeWrongOddWrong : ChangeSpec := { name := "fnDecodeWrongOdd", fn := fun _ => fun
  | [d1, d2, d3] => { results := [.lit (.bool false)], args := [d1, d2, d3] }
  | _ => none }
def FnDecodeWrongOddWrongFalsely : Prop := fnDecodeWrongOddRow.holds Tryd.pinned (OpenSpec.ofChange fnDecodeWrongOddWrong)

/-- 'laws.FnDecodeWrongSecond': WHATEVER THE INPUT: true; the input reads as it did. -/
def fnDecodeWrongSecondSpec : ChangeSpec := { name := "fnDecodeWrongSecond", fn := fun _ => fun
  | [d1, d2, d3, d4] => { results := [.lit (.bool true)], args := [d1, d2, d3, d4] }
  | _ => none }
def fnDecodeWrongSecondRow : OpenClaim := { program := "ytidbhedmiebdaaadoor", sum := "731ce4f414673250927cf7d16e6cb4769bb5aec57b2fbb64526c5712b6a9d6cb", func := "loop.example/lib-hexvarint/laws.FnDecodeWrongSecond", spec := "fnDecodeWrongSecond", named := ["encoding/hex.ErrLength"], apart := false, laid := [("encoding/hex.ErrLength", laid_encoding_hex_ErrLength)] }
def FnDecodeWrongSecondSaid : Prop := fnDecodeWrongSecondRow.holds Tryd.pinned (OpenSpec.ofChange fnDecodeWrongSecondSpec)

/-- ITS FALSE NEIGHBOUR: 'it returns false'. Refute it at one input. -/
def fnDecodeWrongSecondWrong : ChangeSpec := { name := "fnDecodeWrongSecond", fn := fun _ => fun
  | [d1, d2, d3, d4] => { results := [.lit (.bool false)], args := [d1, d2, d3, d4] }
  | _ => none }
def FnDecodeWrongSecondWrongFalsely : Prop := fnDecodeWrongSecondRow.holds Tryd.pinned (OpenSpec.ofChange fnDecodeWrongSecondWrong)

/-- 'laws.FnEncodeDecode': WHATEVER THE INPUT: true; the input reads as it did. -/
def fnEncodeDecodeSpec : ChangeSpec := { name := "fnEncodeDecode", fn := fun _ => fun
  | [d] => { results := [.lit (.bool true)], args := [d] }
  | _ => none }
def fnEncodeDecodeRow : OpenClaim := { program := "ytidbhedmiebdaaadoor", sum := "731ce4f414673250927cf7d16e6cb4769bb5aec57b2fbb64526c5712b6a9d6cb", func := "loop.example/lib-hexvarint/laws.FnEncodeDecode", spec := "fnEncodeDecode", named := ["encoding/hex.ErrLength"], apart := false, laid := [("encoding/hex.ErrLength", laid_encoding_hex_ErrLength)] }
def FnEncodeDecodeSaid : Prop := fnEncodeDecodeRow.holds Tryd.pinned (OpenSpec.ofChange fnEncodeDecodeSpec)

/-- ITS FALSE NEIGHBOUR: 'it returns false'. Refute it at one input. -/
def fnEncodeDecodeWrong : ChangeSpec := { name := "fnEncodeDecode", fn := fun _ => fun
  | [d] => { results := [.lit (.bool false)], args := [d] }
  | _ => none }
def FnEncodeDecodeWrongFalsely : Prop := fnEncodeDecodeRow.holds Tryd.pinned (OpenSpec.ofChange fnEncodeDecodeWrong)

/-- 'laws.FnExactDecode': WHATEVER THE INPUT: true; the input reads as it did. -/
def fnExactDecodeSpec : ChangeSpec := { name := "fnExactDecode", fn := fun _ => fun
  | [d1, d2] => { results := [.lit (.bool true)], args := [d1, d2] }
  | _ => none }
def fnExactDecodeRow : OpenClaim := { program := "ytidbhedmiebdaaadoor", sum := "731ce4f414673250927cf7d16e6cb4769bb5aec57b2fbb64526c5712b6a9d6cb", func := "loop.example/lib-hexvarint/laws.FnExactDecode", spec := "fnExactDecode", named := ["encoding/hex.ErrLength"], apart := false, laid := [("encoding/hex.ErrLength", laid_encoding_hex_ErrLength)] }
def FnExactDecodeSaid : Prop := fnExactDecodeRow.holds Tryd.pinned (OpenSpec.ofChange fnExactDecodeSpec)

/-- ITS FALSE NEIGHBOUR: 'it returns false'. Refute it at one input. -/
def fnExactDecodeWrong : ChangeSpec := { name := "fnExactDecode", fn := fun _ => fun
  | [d1, d2] => { results := [.lit (.bool false)], args := [d1, d2] }
  | _ => none }
def FnExactDecodeWrongFalsely : Prop := fnExactDecodeRow.holds Tryd.pinned (OpenSpec.ofChange fnExactDecodeWrong)

/-- 'laws.FnExactDecodeRest': WHATEVER THE INPUT: true; the input reads as it did. -/
def fnExactDecodeRestSpec : ChangeSpec := { name := "fnExactDecodeRest", fn := fun _ => fun
  | [d1, d2] => { results := [.lit (.bool true)], args := [d1, d2] }
  | _ => none }
def fnExactDecodeRestRow : OpenClaim := { program := "ytidbhedmiebdaaadoor", sum := "731ce4f414673250927cf7d16e6cb4769bb5aec57b2fbb64526c5712b6a9d6cb", func := "loop.example/lib-hexvarint/laws.FnExactDecodeRest", spec := "fnExactDecodeRest", named := ["encoding/hex.ErrLength"], apart := false, laid := [("encoding/hex.ErrLength", laid_encoding_hex_ErrLength)] }
def FnExactDecodeRestSaid : Prop := fnExactDecodeRestRow.holds Tryd.pinned (OpenSpec.ofChange fnExactDecodeRestSpec)

/-- ITS FALSE NEIGHBOUR: 'it returns false'. Refute it at one input. -/
def fnExactDecodeRestWrong : ChangeSpec := { name := "fnExactDecodeRest", fn := fun _ => fun
  | [d1, d2] => { results := [.lit (.bool false)], args := [d1, d2] }
  | _ => none }
def FnExactDecodeRestWrongFalsely : Prop := fnExactDecodeRestRow.holds Tryd.pinned (OpenSpec.ofChange fnExactDecodeRestWrong)

/-- 'laws.FnExactAppendDecode': WHATEVER THE INPUT: true; the input reads as it did. -/
def fnExactAppendDecodeSpec : ChangeSpec := { name := "fnExactAppendDecode", fn := fun _ => fun
  | [d1, d2] => { results := [.lit (.bool true)], args := [d1, d2] }
  | _ => none }
def fnExactAppendDecodeRow : OpenClaim := { program := "ytidbhedmiebdaaadoor", sum := "731ce4f414673250927cf7d16e6cb4769bb5aec57b2fbb64526c5712b6a9d6cb", func := "loop.example/lib-hexvarint/laws.FnExactAppendDecode", spec := "fnExactAppendDecode", named := ["encoding/hex.ErrLength"], apart := false, laid := [("encoding/hex.ErrLength", laid_encoding_hex_ErrLength)] }
def FnExactAppendDecodeSaid : Prop := fnExactAppendDecodeRow.holds Tryd.pinned (OpenSpec.ofChange fnExactAppendDecodeSpec)

/-- ITS FALSE NEIGHBOUR: 'it returns false'. Refute it at one input. -/
def fnExactAppendDecodeWrong : ChangeSpec := { name := "fnExactAppendDecode", fn := fun _ => fun
  | [d1, d2] => { results := [.lit (.bool false)], args := [d1, d2] }
  | _ => none }
def FnExactAppendDecodeWrongFalsely : Prop := fnExactAppendDecodeRow.holds Tryd.pinned (OpenSpec.ofChange fnExactAppendDecodeWrong)

/-- 'laws.FnExactAppendDecodeFault': WHATEVER THE INPUT: true; the input reads as it did. -/
def fnExactAppendDecodeFaultSpec : ChangeSpec := { name := "fnExactAppendDecodeFault", fn := fun _ => fun
  | [d1, d2] => { results := [.lit (.bool true)], args := [d1, d2] }
  | _ => none }
def fnExactAppendDecodeFaultRow : OpenClaim := { program := "ytidbhedmiebdaaadoor", sum := "731ce4f414673250927cf7d16e6cb4769bb5aec57b2fbb64526c5712b6a9d6cb", func := "loop.example/lib-hexvarint/laws.FnExactAppendDecodeFault", spec := "fnExactAppendDecodeFault", named := ["encoding/hex.ErrLength"], apart := false, laid := [("encoding/hex.ErrLength", laid_encoding_hex_ErrLength)] }
def FnExactAppendDecodeFaultSaid : Prop := fnExactAppendDecodeFaultRow.holds Tryd.pinned (OpenSpec.ofChange fnExactAppendDecodeFaultSpec)

/-- ITS FALSE NEIGHBOUR: 'it returns false'. Refute it at one input. -/
def fnExactAppendDecodeFaultWrong : ChangeSpec := { name := "fnExactAppendDecodeFault", fn := fun _ => fun
  | [d1, d2] => { results := [.lit (.bool false)], args := [d1, d2] }
  | _ => none }
def FnExactAppendDecodeFaultWrongFalsely : Prop := fnExactAppendDecodeFaultRow.holds Tryd.pinned (OpenSpec.ofChange fnExactAppendDecodeFaultWrong)

/-- 'laws.FnDecodeRoads': WHATEVER THE INPUT: true; the input reads as it did. -/
def fnDecodeRoadsSpec : ChangeSpec := { name := "fnDecodeRoads", fn := fun _ => fun
  | [d1, d2] => { results := [.lit (.bool true)], args := [d1, d2] }
  | _ => none }
def fnDecodeRoadsRow : OpenClaim := { program := "ytidbhedmiebdaaadoor", sum := "731ce4f414673250927cf7d16e6cb4769bb5aec57b2fbb64526c5712b6a9d6cb", func := "loop.example/lib-hexvarint/laws.FnDecodeRoads", spec := "fnDecodeRoads", named := ["encoding/hex.ErrLength"], apart := false, laid := [("encoding/hex.ErrLength", laid_encoding_hex_ErrLength)] }
def FnDecodeRoadsSaid : Prop := fnDecodeRoadsRow.holds Tryd.pinned (OpenSpec.ofChange fnDecodeRoadsSpec)

/-- ITS FALSE NEIGHBOUR: 'it returns false'. Refute it at one input. -/
def fnDecodeRoadsWrong : ChangeSpec := { name := "fnDecodeRoads", fn := fun _ => fun
  | [d1, d2] => { results := [.lit (.bool false)], args := [d1, d2] }
  | _ => none }
def FnDecodeRoadsWrongFalsely : Prop := fnDecodeRoadsRow.holds Tryd.pinned (OpenSpec.ofChange fnDecodeRoadsWrong)

/-- 'laws.FnAppendDecodeTwice': WHATEVER THE INPUT: true; the input reads as it did. -/
def fnAppendDecodeTwiceSpec : ChangeSpec := { name := "fnAppendDecodeTwice", fn := fun _ => fun
  | [d1, d2] => { results := [.lit (.bool true)], args := [d1, d2] }
  | _ => none }
def fnAppendDecodeTwiceRow : OpenClaim := { program := "ytidbhedmiebdaaadoor", sum := "731ce4f414673250927cf7d16e6cb4769bb5aec57b2fbb64526c5712b6a9d6cb", func := "loop.example/lib-hexvarint/laws.FnAppendDecodeTwice", spec := "fnAppendDecodeTwice", named := ["encoding/hex.ErrLength"], apart := false, laid := [("encoding/hex.ErrLength", laid_encoding_hex_ErrLength)] }
def FnAppendDecodeTwiceSaid : Prop := fnAppendDecodeTwiceRow.holds Tryd.pinned (OpenSpec.ofChange fnAppendDecodeTwiceSpec)

/-- ITS FALSE NEIGHBOUR: 'it returns false'. Refute it at one input. -/
def fnAppendDecodeTwiceWrong : ChangeSpec := { name := "fnAppendDecodeTwice", fn := fun _ => fun
  | [d1, d2] => { results := [.lit (.bool false)], args := [d1, d2] }
  | _ => none }
def FnAppendDecodeTwiceWrongFalsely : Prop := fnAppendDecodeTwiceRow.holds Tryd.pinned (OpenSpec.ofChange fnAppendDecodeTwiceWrong)

/- THE SECOND FORM. 'bulk': how many values and letters a reading holds, each counted each time it is reached (what is shared counts as often as it is met; a slice's spare places count too). A statement '..UptoSaid' is the law's where the arguments, and the package variables that the reading takes, are together of bulk at most 1048576: NARROWER than '..Said'. Prove '..Said' where nothing that the law and all that it calls make is longer than what came in: it says more and counts as full. Else prove '..UptoSaid'. A law counts once. -/
mutual
def uptoBulk {H : Type} : DataW H → Nat
  | .lit (.string bytes) => bytes.length + 1
  | .lit _ => 1
  | .nil => 1
  | .ptr d => uptoBulk d + 1
  | .slice elems spare => uptoBulkAll elems + uptoBulkAll spare + 1
  | .agg parts => uptoBulkAll parts + 1
  | .iface _ d => uptoBulk d + 1
  | .map entries => uptoBulkEntries entries + 1
  | .held _ => 1
def uptoBulkAll {H : Type} : List (DataW H) → Nat
  | [] => 0
  | d :: r => uptoBulk d + uptoBulkAll r
def uptoBulkEntries {H : Type} : List (Lit × DataW H) → Nat
  | [] => 0
  | x :: r => uptoBulkEntry x + uptoBulkEntries r
def uptoBulkEntry {H : Type} : Lit × DataW H → Nat
  | (.string bytes, d) => bytes.length + uptoBulk d + 1
  | (_, d) => uptoBulk d + 1
 end
def uptoSmall : (H : Type) → List (DataW H) → Bool := fun _ ds => decide (uptoBulkAll ds ≤ 1048576)
def OpenSpec.upto (s : _root_.Go.ChangeSpec) : _root_.Go.OpenSpec := { _root_.Go.OpenSpec.ofChange s with cond := some uptoSmall }

/-- 'laws.FnDecodeWrong', WHERE WHAT IT READS IS OF BULK AT MOST 1048576: true; the input reads as it did. -/
def fnDecodeWrongUptoRow : OpenClaim := { program := "ytidbhedmiebdaaadoor", sum := "731ce4f414673250927cf7d16e6cb4769bb5aec57b2fbb64526c5712b6a9d6cb", func := "loop.example/lib-hexvarint/laws.FnDecodeWrong", spec := "fnDecodeWrong", named := ["encoding/hex.ErrLength"], apart := false, laid := [("encoding/hex.ErrLength", laid_encoding_hex_ErrLength)], narrowed := true }
def FnDecodeWrongUptoSaid : Prop := fnDecodeWrongUptoRow.holds Tryd.pinned (OpenSpec.upto fnDecodeWrongSpec)

/-- 'laws.FnDecodeWrongOdd', WHERE WHAT IT READS IS OF BULK AT MOST 1048576: true; the input reads as it did. -/
def fnDecodeWrongOddUptoRow : OpenClaim := { program := "ytidbhedmiebdaaadoor", sum := "731ce4f414673250927cf7d16e6cb4769bb5aec57b2fbb64526c5712b6a9d6cb", func := "loop.example/lib-hexvarint/laws.FnDecodeWrongOdd", spec := "fnDecodeWrongOdd", named := ["encoding/hex.ErrLength"], apart := false, laid := [("encoding/hex.ErrLength", laid_encoding_hex_ErrLength)], narrowed := true }
def FnDecodeWrongOddUptoSaid : Prop := fnDecodeWrongOddUptoRow.holds Tryd.pinned (OpenSpec.upto fnDecodeWrongOddSpec)

/-- 'laws.FnDecodeWrongSecond', WHERE WHAT IT READS IS OF BULK AT MOST 1048576: true; the input reads as it did. -/
def fnDecodeWrongSecondUptoRow : OpenClaim := { program := "ytidbhedmiebdaaadoor", sum := "731ce4f414673250927cf7d16e6cb4769bb5aec57b2fbb64526c5712b6a9d6cb", func := "loop.example/lib-hexvarint/laws.FnDecodeWrongSecond", spec := "fnDecodeWrongSecond", named := ["encoding/hex.ErrLength"], apart := false, laid := [("encoding/hex.ErrLength", laid_encoding_hex_ErrLength)], narrowed := true }
def FnDecodeWrongSecondUptoSaid : Prop := fnDecodeWrongSecondUptoRow.holds Tryd.pinned (OpenSpec.upto fnDecodeWrongSecondSpec)

/-- 'laws.FnEncodeDecode', WHERE WHAT IT READS IS OF BULK AT MOST 1048576: true; the input reads as it did. -/
def fnEncodeDecodeUptoRow : OpenClaim := { program := "ytidbhedmiebdaaadoor", sum := "731ce4f414673250927cf7d16e6cb4769bb5aec57b2fbb64526c5712b6a9d6cb", func := "loop.example/lib-hexvarint/laws.FnEncodeDecode", spec := "fnEncodeDecode", named := ["encoding/hex.ErrLength"], apart := false, laid := [("encoding/hex.ErrLength", laid_encoding_hex_ErrLength)], narrowed := true }
def FnEncodeDecodeUptoSaid : Prop := fnEncodeDecodeUptoRow.holds Tryd.pinned (OpenSpec.upto fnEncodeDecodeSpec)

/-- 'laws.FnExactDecode', WHERE WHAT IT READS IS OF BULK AT MOST 1048576: true; the input reads as it did. -/
def fnExactDecodeUptoRow : OpenClaim := { program := "ytidbhedmiebdaaadoor", sum := "731ce4f414673250927cf7d16e6cb4769bb5aec57b2fbb64526c5712b6a9d6cb", func := "loop.example/lib-hexvarint/laws.FnExactDecode", spec := "fnExactDecode", named := ["encoding/hex.ErrLength"], apart := false, laid := [("encoding/hex.ErrLength", laid_encoding_hex_ErrLength)], narrowed := true }
def FnExactDecodeUptoSaid : Prop := fnExactDecodeUptoRow.holds Tryd.pinned (OpenSpec.upto fnExactDecodeSpec)

/-- 'laws.FnExactDecodeRest', WHERE WHAT IT READS IS OF BULK AT MOST 1048576: true; the input reads as it did. -/
def fnExactDecodeRestUptoRow : OpenClaim := { program := "ytidbhedmiebdaaadoor", sum := "731ce4f414673250927cf7d16e6cb4769bb5aec57b2fbb64526c5712b6a9d6cb", func := "loop.example/lib-hexvarint/laws.FnExactDecodeRest", spec := "fnExactDecodeRest", named := ["encoding/hex.ErrLength"], apart := false, laid := [("encoding/hex.ErrLength", laid_encoding_hex_ErrLength)], narrowed := true }
def FnExactDecodeRestUptoSaid : Prop := fnExactDecodeRestUptoRow.holds Tryd.pinned (OpenSpec.upto fnExactDecodeRestSpec)

/-- 'laws.FnExactAppendDecode', WHERE WHAT IT READS IS OF BULK AT MOST 1048576: true; the input reads as it did. -/
def fnExactAppendDecodeUptoRow : OpenClaim := { program := "ytidbhedmiebdaaadoor", sum := "731ce4f414673250927cf7d16e6cb4769bb5aec57b2fbb64526c5712b6a9d6cb", func := "loop.example/lib-hexvarint/laws.FnExactAppendDecode", spec := "fnExactAppendDecode", named := ["encoding/hex.ErrLength"], apart := false, laid := [("encoding/hex.ErrLength", laid_encoding_hex_ErrLength)], narrowed := true }
def FnExactAppendDecodeUptoSaid : Prop := fnExactAppendDecodeUptoRow.holds Tryd.pinned (OpenSpec.upto fnExactAppendDecodeSpec)

/-- 'laws.FnExactAppendDecodeFault', WHERE WHAT IT READS IS OF BULK AT MOST 1048576: true; the input reads as it did. -/
def fnExactAppendDecodeFaultUptoRow : OpenClaim := { program := "ytidbhedmiebdaaadoor", sum := "731ce4f414673250927cf7d16e6cb4769bb5aec57b2fbb64526c5712b6a9d6cb", func := "loop.example/lib-hexvarint/laws.FnExactAppendDecodeFault", spec := "fnExactAppendDecodeFault", named := ["encoding/hex.ErrLength"], apart := false, laid := [("encoding/hex.ErrLength", laid_encoding_hex_ErrLength)], narrowed := true }
def FnExactAppendDecodeFaultUptoSaid : Prop := fnExactAppendDecodeFaultUptoRow.holds Tryd.pinned (OpenSpec.upto fnExactAppendDecodeFaultSpec)

/-- 'laws.FnDecodeRoads', WHERE WHAT IT READS IS OF BULK AT MOST 1048576: true; the input reads as it did. -/
def fnDecodeRoadsUptoRow : OpenClaim := { program := "ytidbhedmiebdaaadoor", sum := "731ce4f414673250927cf7d16e6cb4769bb5aec57b2fbb64526c5712b6a9d6cb", func := "loop.example/lib-hexvarint/laws.FnDecodeRoads", spec := "fnDecodeRoads", named := ["encoding/hex.ErrLength"], apart := false, laid := [("encoding/hex.ErrLength", laid_encoding_hex_ErrLength)], narrowed := true }
def FnDecodeRoadsUptoSaid : Prop := fnDecodeRoadsUptoRow.holds Tryd.pinned (OpenSpec.upto fnDecodeRoadsSpec)

/-- 'laws.FnAppendDecodeTwice', WHERE WHAT IT READS IS OF BULK AT MOST 1048576: true; the input reads as it did. -/
def fnAppendDecodeTwiceUptoRow : OpenClaim := { program := "ytidbhedmiebdaaadoor", sum := "731ce4f414673250927cf7d16e6cb4769bb5aec57b2fbb64526c5712b6a9d6cb", func := "loop.example/lib-hexvarint/laws.FnAppendDecodeTwice", spec := "fnAppendDecodeTwice", named := ["encoding/hex.ErrLength"], apart := false, laid := [("encoding/hex.ErrLength", laid_encoding_hex_ErrLength)], narrowed := true }
def FnAppendDecodeTwiceUptoSaid : Prop := fnAppendDecodeTwiceUptoRow.holds Tryd.pinned (OpenSpec.upto fnAppendDecodeTwiceSpec)

end Rows
end Go.Proofs.YtidbhedmiebdaaaDoor
