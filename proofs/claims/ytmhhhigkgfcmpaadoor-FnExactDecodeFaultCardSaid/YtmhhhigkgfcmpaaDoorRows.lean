/-
  NARROWER THAN 'FOR EVERY INPUT', by the rows' own cells (each row's printed sentence says how): FnDecodeGood: laid · FnDecodeJoin: laid · FnDecodeKeeps: laid · FnDecodeStops: laid · FnExactDecodeFault: laid · FnExactDecodeString: laid · FnDecodeBegins: laid · FnDecodeEncode: laid · FnDecodeEncodeAll: laid · FnDecodeJoinAll: laid · FnDecodeOdd: laid · FnDecodeUpper: laid.
  DERIVED. THE GIVEN ROWS OF THIS SEAT. 12 by the template 'for every input the law returns true; each argument reads behind the call as it read before'; 0 by the template 'total and deterministic' (their statements: YtmhhhigkgfcmpaaDoorTotals.lean).
  GIVEN WITH THE SEED: the statements are not yours to turn. If you find one false, say at which input.
  Laid BY PROGRAM, IN A SANDBOX (cutbox-rows.mjs): the forced cells as the released guide's own fill.sh prints them over the translation 347db65d29c40796… (all of the seat's roots in one cut). By AI agents, Wed Nov 11 2026. No macro, syntax, notation, axiom, sorry.
-/
import Derived.Test.YtmhhhigkgfcmpaaDoorChecked
import GoSem.Claim
import GoSem.ClaimJoined
import GoSem.ClaimMapViews
import Derived.JoinedTies
import Derived.KernelRfl
namespace Go.Proofs.YtmhhhigkgfcmpaaDoor
/- THE CELL 'sum', in the pinned program and in every row, IS THE sha256 OF THE DUMP (.gsa) THAT YtmhhhigkgfcmpaaDoorProg.lean LOADS. Nothing in Lean hashes anything: it is a label: what it is worth is what the hold of that sum in a sandbox is worth. -/
noncomputable def Tryd.pinned : Pinned := { name := "ytmhhhigkgfcmpaadoor", sum := "347db65d29c40796b0d7923b26260d605fbf48a49df6dbdd3a04dc8e38a25809", checked := Tryd.checked }
namespace Rows
def none {H : Type} : Left H := { results := [], args := [] }

/- WHAT THE LISTED PACKAGE-LEVEL VARIABLES READ AS WHEN THE CALL BEGINS. Each datum BY PROGRAM (the guide's laid-datum.mjs) off the statement by which the dump's own 'gosem.cut.vars' lays the variable. In a bare row this is a premise. The card (YtmhhhigkgfcmpaaDoorCards.lean) ties it to the program's text. -/
def laid_encoding_hex_ErrLength {H : Type} : DataW H := .iface "*errors.errorString" (.ptr (.agg [.lit (.string [101, 110, 99, 111, 100, 105, 110, 103, 47, 104, 101, 120, 58, 32, 111, 100, 100, 32, 108, 101, 110, 103, 116, 104, 32, 104, 101, 120, 32, 115, 116, 114, 105, 110, 103])]))

/-- 'laws.FnDecodeGood': WHATEVER THE INPUT: true; the input reads as it did. -/
def fnDecodeGoodSpec : ChangeSpec := { name := "fnDecodeGood", fn := fun _ => fun
  | [d] => { results := [.lit (.bool true)], args := [d] }
  | _ => none }
def fnDecodeGoodRow : OpenClaim := { program := "ytmhhhigkgfcmpaadoor", sum := "347db65d29c40796b0d7923b26260d605fbf48a49df6dbdd3a04dc8e38a25809", func := "loop.example/lib-hexvarint/laws.FnDecodeGood", spec := "fnDecodeGood", named := ["encoding/hex.ErrLength"], apart := false, laid := [("encoding/hex.ErrLength", laid_encoding_hex_ErrLength)] }
def FnDecodeGoodSaid : Prop := fnDecodeGoodRow.holds Tryd.pinned (OpenSpec.ofChange fnDecodeGoodSpec)

/-- ITS FALSE NEIGHBOUR: 'it returns false'. Refute it at one input. -/
def fnDecodeGoodWrong : ChangeSpec := { name := "fnDecodeGood", fn := fun _ => fun
  | [d] => { results := [.lit (.bool false)], args := [d] }
  | _ => none }
def FnDecodeGoodWrongFalsely : Prop := fnDecodeGoodRow.holds Tryd.pinned (OpenSpec.ofChange fnDecodeGoodWrong)

/-- 'laws.FnDecodeJoin': WHATEVER THE INPUT: true; the input reads as it did. -/
def fnDecodeJoinSpec : ChangeSpec := { name := "fnDecodeJoin", fn := fun _ => fun
  | [d] => { results := [.lit (.bool true)], args := [d] }
  | _ => none }
def fnDecodeJoinRow : OpenClaim := { program := "ytmhhhigkgfcmpaadoor", sum := "347db65d29c40796b0d7923b26260d605fbf48a49df6dbdd3a04dc8e38a25809", func := "loop.example/lib-hexvarint/laws.FnDecodeJoin", spec := "fnDecodeJoin", named := ["encoding/hex.ErrLength"], apart := false, laid := [("encoding/hex.ErrLength", laid_encoding_hex_ErrLength)] }
def FnDecodeJoinSaid : Prop := fnDecodeJoinRow.holds Tryd.pinned (OpenSpec.ofChange fnDecodeJoinSpec)

/-- ITS FALSE NEIGHBOUR: 'it returns false'. Refute it at one input. -/
def fnDecodeJoinWrong : ChangeSpec := { name := "fnDecodeJoin", fn := fun _ => fun
  | [d] => { results := [.lit (.bool false)], args := [d] }
  | _ => none }
def FnDecodeJoinWrongFalsely : Prop := fnDecodeJoinRow.holds Tryd.pinned (OpenSpec.ofChange fnDecodeJoinWrong)

/-- 'laws.FnDecodeKeeps': WHATEVER THE INPUT: true; the input reads as it did. -/
def fnDecodeKeepsSpec : ChangeSpec := { name := "fnDecodeKeeps", fn := fun _ => fun
  | [d1, d2] => { results := [.lit (.bool true)], args := [d1, d2] }
  | _ => none }
def fnDecodeKeepsRow : OpenClaim := { program := "ytmhhhigkgfcmpaadoor", sum := "347db65d29c40796b0d7923b26260d605fbf48a49df6dbdd3a04dc8e38a25809", func := "loop.example/lib-hexvarint/laws.FnDecodeKeeps", spec := "fnDecodeKeeps", named := ["encoding/hex.ErrLength"], apart := false, laid := [("encoding/hex.ErrLength", laid_encoding_hex_ErrLength)] }
def FnDecodeKeepsSaid : Prop := fnDecodeKeepsRow.holds Tryd.pinned (OpenSpec.ofChange fnDecodeKeepsSpec)

/-- ITS FALSE NEIGHBOUR: 'it returns false'. Refute it at one input. -/
def fnDecodeKeepsWrong : ChangeSpec := { name := "fnDecodeKeeps", fn := fun _ => fun
  | [d1, d2] => { results := [.lit (.bool false)], args := [d1, d2] }
  | _ => none }
def FnDecodeKeepsWrongFalsely : Prop := fnDecodeKeepsRow.holds Tryd.pinned (OpenSpec.ofChange fnDecodeKeepsWrong)

/-- 'laws.FnDecodeStops': WHATEVER THE INPUT: true; the input reads as it did. -/
def fnDecodeStopsSpec : ChangeSpec := { name := "fnDecodeStops", fn := fun _ => fun
  | [d] => { results := [.lit (.bool true)], args := [d] }
  | _ => none }
def fnDecodeStopsRow : OpenClaim := { program := "ytmhhhigkgfcmpaadoor", sum := "347db65d29c40796b0d7923b26260d605fbf48a49df6dbdd3a04dc8e38a25809", func := "loop.example/lib-hexvarint/laws.FnDecodeStops", spec := "fnDecodeStops", named := ["encoding/hex.ErrLength"], apart := false, laid := [("encoding/hex.ErrLength", laid_encoding_hex_ErrLength)] }
def FnDecodeStopsSaid : Prop := fnDecodeStopsRow.holds Tryd.pinned (OpenSpec.ofChange fnDecodeStopsSpec)

/-- ITS FALSE NEIGHBOUR: 'it returns false'. Refute it at one input. -/
def fnDecodeStopsWrong : ChangeSpec := { name := "fnDecodeStops", fn := fun _ => fun
  | [d] => { results := [.lit (.bool false)], args := [d] }
  | _ => none }
def FnDecodeStopsWrongFalsely : Prop := fnDecodeStopsRow.holds Tryd.pinned (OpenSpec.ofChange fnDecodeStopsWrong)

/-- 'laws.FnExactDecodeFault': WHATEVER THE INPUT: true; the input reads as it did. -/
def fnExactDecodeFaultSpec : ChangeSpec := { name := "fnExactDecodeFault", fn := fun _ => fun
  | [d] => { results := [.lit (.bool true)], args := [d] }
  | _ => none }
def fnExactDecodeFaultRow : OpenClaim := { program := "ytmhhhigkgfcmpaadoor", sum := "347db65d29c40796b0d7923b26260d605fbf48a49df6dbdd3a04dc8e38a25809", func := "loop.example/lib-hexvarint/laws.FnExactDecodeFault", spec := "fnExactDecodeFault", named := ["encoding/hex.ErrLength"], apart := false, laid := [("encoding/hex.ErrLength", laid_encoding_hex_ErrLength)] }
def FnExactDecodeFaultSaid : Prop := fnExactDecodeFaultRow.holds Tryd.pinned (OpenSpec.ofChange fnExactDecodeFaultSpec)

/-- ITS FALSE NEIGHBOUR: 'it returns false'. Refute it at one input. -/
def fnExactDecodeFaultWrong : ChangeSpec := { name := "fnExactDecodeFault", fn := fun _ => fun
  | [d] => { results := [.lit (.bool false)], args := [d] }
  | _ => none }
def FnExactDecodeFaultWrongFalsely : Prop := fnExactDecodeFaultRow.holds Tryd.pinned (OpenSpec.ofChange fnExactDecodeFaultWrong)

/-- 'laws.FnExactDecodeString': WHATEVER THE INPUT: true; the input reads as it did. -/
def fnExactDecodeStringSpec : ChangeSpec := { name := "fnExactDecodeString", fn := fun _ => fun
  | [d] => { results := [.lit (.bool true)], args := [d] }
  | _ => none }
def fnExactDecodeStringRow : OpenClaim := { program := "ytmhhhigkgfcmpaadoor", sum := "347db65d29c40796b0d7923b26260d605fbf48a49df6dbdd3a04dc8e38a25809", func := "loop.example/lib-hexvarint/laws.FnExactDecodeString", spec := "fnExactDecodeString", named := ["encoding/hex.ErrLength"], apart := false, laid := [("encoding/hex.ErrLength", laid_encoding_hex_ErrLength)] }
def FnExactDecodeStringSaid : Prop := fnExactDecodeStringRow.holds Tryd.pinned (OpenSpec.ofChange fnExactDecodeStringSpec)

/-- ITS FALSE NEIGHBOUR: 'it returns false'. Refute it at one input. -/
def fnExactDecodeStringWrong : ChangeSpec := { name := "fnExactDecodeString", fn := fun _ => fun
  | [d] => { results := [.lit (.bool false)], args := [d] }
  | _ => none }
def FnExactDecodeStringWrongFalsely : Prop := fnExactDecodeStringRow.holds Tryd.pinned (OpenSpec.ofChange fnExactDecodeStringWrong)

/-- 'laws.FnDecodeBegins': WHATEVER THE INPUT: true; the input reads as it did. -/
def fnDecodeBeginsSpec : ChangeSpec := { name := "fnDecodeBegins", fn := fun _ => fun
  | [d] => { results := [.lit (.bool true)], args := [d] }
  | _ => none }
def fnDecodeBeginsRow : OpenClaim := { program := "ytmhhhigkgfcmpaadoor", sum := "347db65d29c40796b0d7923b26260d605fbf48a49df6dbdd3a04dc8e38a25809", func := "loop.example/lib-hexvarint/laws.FnDecodeBegins", spec := "fnDecodeBegins", named := ["encoding/hex.ErrLength"], apart := false, laid := [("encoding/hex.ErrLength", laid_encoding_hex_ErrLength)] }
def FnDecodeBeginsSaid : Prop := fnDecodeBeginsRow.holds Tryd.pinned (OpenSpec.ofChange fnDecodeBeginsSpec)

/-- ITS FALSE NEIGHBOUR: 'it returns false'. Refute it at one input. -/
def fnDecodeBeginsWrong : ChangeSpec := { name := "fnDecodeBegins", fn := fun _ => fun
  | [d] => { results := [.lit (.bool false)], args := [d] }
  | _ => none }
def FnDecodeBeginsWrongFalsely : Prop := fnDecodeBeginsRow.holds Tryd.pinned (OpenSpec.ofChange fnDecodeBeginsWrong)

/-- 'laws.FnDecodeEncode': WHATEVER THE INPUT: true; the input reads as it did. -/
def fnDecodeEncodeSpec : ChangeSpec := { name := "fnDecodeEncode", fn := fun _ => fun
  | [d] => { results := [.lit (.bool true)], args := [d] }
  | _ => none }
def fnDecodeEncodeRow : OpenClaim := { program := "ytmhhhigkgfcmpaadoor", sum := "347db65d29c40796b0d7923b26260d605fbf48a49df6dbdd3a04dc8e38a25809", func := "loop.example/lib-hexvarint/laws.FnDecodeEncode", spec := "fnDecodeEncode", named := ["encoding/hex.ErrLength"], apart := false, laid := [("encoding/hex.ErrLength", laid_encoding_hex_ErrLength)] }
def FnDecodeEncodeSaid : Prop := fnDecodeEncodeRow.holds Tryd.pinned (OpenSpec.ofChange fnDecodeEncodeSpec)

/-- ITS FALSE NEIGHBOUR: 'it returns false'. Refute it at one input. -/
def fnDecodeEncodeWrong : ChangeSpec := { name := "fnDecodeEncode", fn := fun _ => fun
  | [d] => { results := [.lit (.bool false)], args := [d] }
  | _ => none }
def FnDecodeEncodeWrongFalsely : Prop := fnDecodeEncodeRow.holds Tryd.pinned (OpenSpec.ofChange fnDecodeEncodeWrong)

/-- 'laws.FnDecodeEncodeAll': WHATEVER THE INPUT: true; the input reads as it did. -/
def fnDecodeEncodeAllSpec : ChangeSpec := { name := "fnDecodeEncodeAll", fn := fun _ => fun
  | [d] => { results := [.lit (.bool true)], args := [d] }
  | _ => none }
def fnDecodeEncodeAllRow : OpenClaim := { program := "ytmhhhigkgfcmpaadoor", sum := "347db65d29c40796b0d7923b26260d605fbf48a49df6dbdd3a04dc8e38a25809", func := "loop.example/lib-hexvarint/laws.FnDecodeEncodeAll", spec := "fnDecodeEncodeAll", named := ["encoding/hex.ErrLength"], apart := false, laid := [("encoding/hex.ErrLength", laid_encoding_hex_ErrLength)] }
def FnDecodeEncodeAllSaid : Prop := fnDecodeEncodeAllRow.holds Tryd.pinned (OpenSpec.ofChange fnDecodeEncodeAllSpec)

/-- ITS FALSE NEIGHBOUR: 'it returns false'. Refute it at one input. -/
def fnDecodeEncodeAllWrong : ChangeSpec := { name := "fnDecodeEncodeAll", fn := fun _ => fun
  | [d] => { results := [.lit (.bool false)], args := [d] }
  | _ => none }
def FnDecodeEncodeAllWrongFalsely : Prop := fnDecodeEncodeAllRow.holds Tryd.pinned (OpenSpec.ofChange fnDecodeEncodeAllWrong)

/-- 'laws.FnDecodeJoinAll': WHATEVER THE INPUT: true; the input reads as it did. -/
def fnDecodeJoinAllSpec : ChangeSpec := { name := "fnDecodeJoinAll", fn := fun _ => fun
  | [d1, d2] => { results := [.lit (.bool true)], args := [d1, d2] }
  | _ => none }
def fnDecodeJoinAllRow : OpenClaim := { program := "ytmhhhigkgfcmpaadoor", sum := "347db65d29c40796b0d7923b26260d605fbf48a49df6dbdd3a04dc8e38a25809", func := "loop.example/lib-hexvarint/laws.FnDecodeJoinAll", spec := "fnDecodeJoinAll", named := ["encoding/hex.ErrLength"], apart := false, laid := [("encoding/hex.ErrLength", laid_encoding_hex_ErrLength)] }
def FnDecodeJoinAllSaid : Prop := fnDecodeJoinAllRow.holds Tryd.pinned (OpenSpec.ofChange fnDecodeJoinAllSpec)

/-- ITS FALSE NEIGHBOUR: 'it returns false'. Refute it at one input. -/
def fnDecodeJoinAllWrong : ChangeSpec := { name := "fnDecodeJoinAll", fn := fun _ => fun
  | [d1, d2] => { results := [.lit (.bool false)], args := [d1, d2] }
  | _ => none }
def FnDecodeJoinAllWrongFalsely : Prop := fnDecodeJoinAllRow.holds Tryd.pinned (OpenSpec.ofChange fnDecodeJoinAllWrong)

/-- 'laws.FnDecodeOdd': WHATEVER THE INPUT: true; the input reads as it did. -/
def fnDecodeOddSpec : ChangeSpec := { name := "fnDecodeOdd", fn := fun _ => fun
  | [d1, d2] => { results := [.lit (.bool true)], args := [d1, d2] }
  | _ => none }
def fnDecodeOddRow : OpenClaim := { program := "ytmhhhigkgfcmpaadoor", sum := "347db65d29c40796b0d7923b26260d605fbf48a49df6dbdd3a04dc8e38a25809", func := "loop.example/lib-hexvarint/laws.FnDecodeOdd", spec := "fnDecodeOdd", named := ["encoding/hex.ErrLength"], apart := false, laid := [("encoding/hex.ErrLength", laid_encoding_hex_ErrLength)] }
def FnDecodeOddSaid : Prop := fnDecodeOddRow.holds Tryd.pinned (OpenSpec.ofChange fnDecodeOddSpec)

/-- ITS FALSE NEIGHBOUR: 'it returns false'. Refute it at one input. -/
def fnDecodeOddWrong : ChangeSpec := { name := "fnDecodeOdd", fn := fun _ => fun
  | [d1, d2] => { results := [.lit (.bool false)], args := [d1, d2] }
  | _ => none }
def FnDecodeOddWrongFalsely : Prop := fnDecodeOddRow.holds Tryd.pinned (OpenSpec.ofChange fnDecodeOddWrong)

/-- 'laws.FnDecodeUpper': WHATEVER THE INPUT: true; the input reads as it did. -/
def fnDecodeUpperSpec : ChangeSpec := { name := "fnDecodeUpper", fn := fun _ => fun
  | [d1, d2] => { results := [.lit (.bool true)], args := [d1, d2] }
  | _ => none }
def fnDecodeUpperRow : OpenClaim := { program := "ytmhhhigkgfcmpaadoor", sum := "347db65d29c40796b0d7923b26260d605fbf48a49df6dbdd3a04dc8e38a25809", func := "loop.example/lib-hexvarint/laws.FnDecodeUpper", spec := "fnDecodeUpper", named := ["encoding/hex.ErrLength"], apart := false, laid := [("encoding/hex.ErrLength", laid_encoding_hex_ErrLength)] }
def FnDecodeUpperSaid : Prop := fnDecodeUpperRow.holds Tryd.pinned (OpenSpec.ofChange fnDecodeUpperSpec)

/-- ITS FALSE NEIGHBOUR: 'it returns false'. Refute it at one input. -/
def fnDecodeUpperWrong : ChangeSpec := { name := "fnDecodeUpper", fn := fun _ => fun
  | [d1, d2] => { results := [.lit (.bool false)], args := [d1, d2] }
  | _ => none }
def FnDecodeUpperWrongFalsely : Prop := fnDecodeUpperRow.holds Tryd.pinned (OpenSpec.ofChange fnDecodeUpperWrong)

/- THE SECOND FORM. 'bulk': how many values and letters a reading holds, each counted each time it is reached (what is shared counts as often as it is met; a slice's spare places count too). A statement '..UptoSaid' is the law's where the arguments, and the package variables that the reading takes, are together of bulk at most 1048576: NARROWER than '..Said'. Prove '..Said' where nothing that the law and all that it calls make is longer than what came in: it says more and counts as full. Else prove '..UptoSaid'. A law counts once. -/
mutual
def uptoBulk {H : Type} : DataW H → Nat
  | .lit (.string bytes) => bytes.length + 1
  | .lit _ => 1
  | .nil => 1
  | .ptr d => uptoBulk d + 1
  | .slice elems spare => uptoBulkAll elems + uptoBulkAll spare + 1
  | .agg parts => uptoBulkAll parts + 1
  | .iface _ d => uptoBulk d + 1
  | .map entries => uptoBulkEntries entries + 1
  | .held _ => 1
def uptoBulkAll {H : Type} : List (DataW H) → Nat
  | [] => 0
  | d :: r => uptoBulk d + uptoBulkAll r
def uptoBulkEntries {H : Type} : List (Lit × DataW H) → Nat
  | [] => 0
  | x :: r => uptoBulkEntry x + uptoBulkEntries r
def uptoBulkEntry {H : Type} : Lit × DataW H → Nat
  | (.string bytes, d) => bytes.length + uptoBulk d + 1
  | (_, d) => uptoBulk d + 1
 end
def uptoSmall : (H : Type) → List (DataW H) → Bool := fun _ ds => decide (uptoBulkAll ds ≤ 1048576)
def OpenSpec.upto (s : _root_.Go.ChangeSpec) : _root_.Go.OpenSpec := { _root_.Go.OpenSpec.ofChange s with cond := some uptoSmall }

/-- 'laws.FnDecodeGood', WHERE WHAT IT READS IS OF BULK AT MOST 1048576: true; the input reads as it did. -/
def fnDecodeGoodUptoRow : OpenClaim := { program := "ytmhhhigkgfcmpaadoor", sum := "347db65d29c40796b0d7923b26260d605fbf48a49df6dbdd3a04dc8e38a25809", func := "loop.example/lib-hexvarint/laws.FnDecodeGood", spec := "fnDecodeGood", named := ["encoding/hex.ErrLength"], apart := false, laid := [("encoding/hex.ErrLength", laid_encoding_hex_ErrLength)], narrowed := true }
def FnDecodeGoodUptoSaid : Prop := fnDecodeGoodUptoRow.holds Tryd.pinned (OpenSpec.upto fnDecodeGoodSpec)

/-- 'laws.FnDecodeJoin', WHERE WHAT IT READS IS OF BULK AT MOST 1048576: true; the input reads as it did. -/
def fnDecodeJoinUptoRow : OpenClaim := { program := "ytmhhhigkgfcmpaadoor", sum := "347db65d29c40796b0d7923b26260d605fbf48a49df6dbdd3a04dc8e38a25809", func := "loop.example/lib-hexvarint/laws.FnDecodeJoin", spec := "fnDecodeJoin", named := ["encoding/hex.ErrLength"], apart := false, laid := [("encoding/hex.ErrLength", laid_encoding_hex_ErrLength)], narrowed := true }
def FnDecodeJoinUptoSaid : Prop := fnDecodeJoinUptoRow.holds Tryd.pinned (OpenSpec.upto fnDecodeJoinSpec)

/-- 'laws.FnDecodeKeeps', WHERE WHAT IT READS IS OF BULK AT MOST 1048576: true; the input reads as it did. -/
def fnDecodeKeepsUptoRow : OpenClaim := { program := "ytmhhhigkgfcmpaadoor", sum := "347db65d29c40796b0d7923b26260d605fbf48a49df6dbdd3a04dc8e38a25809", func := "loop.example/lib-hexvarint/laws.FnDecodeKeeps", spec := "fnDecodeKeeps", named := ["encoding/hex.ErrLength"], apart := false, laid := [("encoding/hex.ErrLength", laid_encoding_hex_ErrLength)], narrowed := true }
def FnDecodeKeepsUptoSaid : Prop := fnDecodeKeepsUptoRow.holds Tryd.pinned (OpenSpec.upto fnDecodeKeepsSpec)

/-- 'laws.FnDecodeStops', WHERE WHAT IT READS IS OF BULK AT MOST 1048576: true; the input reads as it did. -/
def fnDecodeStopsUptoRow : OpenClaim := { program := "ytmhhhigkgfcmpaadoor", sum := "347db65d29c40796b0d7923b26260d605fbf48a49df6dbdd3a04dc8e38a25809", func := "loop.example/lib-hexvarint/laws.FnDecodeStops", spec := "fnDecodeStops", named := ["encoding/hex.ErrLength"], apart := false, laid := [("encoding/hex.ErrLength", laid_encoding_hex_ErrLength)], narrowed := true }
def FnDecodeStopsUptoSaid : Prop := fnDecodeStopsUptoRow.holds Tryd.pinned (OpenSpec.upto fnDecodeStopsSpec)

/-- 'laws.FnExactDecodeFault', WHERE WHAT IT READS IS OF BULK AT MOST 1048576: true; the input reads as it did. -/
def fnExactDecodeFaultUptoRow : OpenClaim := { program := "ytmhhhigkgfcmpaadoor", sum := "347db65d29c40796b0d7923b26260d605fbf48a49df6dbdd3a04dc8e38a25809", func := "loop.example/lib-hexvarint/laws.FnExactDecodeFault", spec := "fnExactDecodeFault", named := ["encoding/hex.ErrLength"], apart := false, laid := [("encoding/hex.ErrLength", laid_encoding_hex_ErrLength)], narrowed := true }
def FnExactDecodeFaultUptoSaid : Prop := fnExactDecodeFaultUptoRow.holds Tryd.pinned (OpenSpec.upto fnExactDecodeFaultSpec)

/-- 'laws.FnExactDecodeString', WHERE WHAT IT READS IS OF BULK AT MOST 1048576: true; the input reads as it did. -/
def fnExactDecodeStringUptoRow : OpenClaim := { program := "ytmhhhigkgfcmpaadoor", sum := "347db65d29c40796b0d7923b26260d605fbf48a49df6dbdd3a04dc8e38a25809", func := "loop.example/lib-hexvarint/laws.FnExactDecodeString", spec := "fnExactDecodeString", named := ["encoding/hex.ErrLength"], apart := false, laid := [("encoding/hex.ErrLength", laid_encoding_hex_ErrLength)], narrowed := true }
def FnExactDecodeStringUptoSaid : Prop := fnExactDecodeStringUptoRow.holds Tryd.pinned (OpenSpec.upto fnExactDecodeStringSpec)

/-- 'laws.FnDecodeBegins', WHERE WHAT IT READS IS OF BULK AT MOST 1048576: true; the input reads as it did. -/
def fnDecodeBeginsUptoRow : OpenClaim := { program := "ytmhhhigkgfcmpaadoor", sum := "347db65d29c40796b0d7923b26260d605fbf48a49df6dbdd3a04dc8e38a25809", func := "loop.example/lib-hexvarint/laws.FnDecodeBegins", spec := "fnDecodeBegins", named := ["encoding/hex.ErrLength"], apart := false, laid := [("encoding/hex.ErrLength", laid_encoding_hex_ErrLength)], narrowed := true }
def FnDecodeBeginsUptoSaid : Prop := fnDecodeBeginsUptoRow.holds Tryd.pinned (OpenSpec.upto fnDecodeBeginsSpec)

/-- 'laws.FnDecodeEncode', WHERE WHAT IT READS IS OF BULK AT MOST 1048576: true; the input reads as it did. -/
def fnDecodeEncodeUptoRow : OpenClaim := { program := "ytmhhhigkgfcmpaadoor", sum := "347db65d29c40796b0d7923b26260d605fbf48a49df6dbdd3a04dc8e38a25809", func := "loop.example/lib-hexvarint/laws.FnDecodeEncode", spec := "fnDecodeEncode", named := ["encoding/hex.ErrLength"], apart := false, laid := [("encoding/hex.ErrLength", laid_encoding_hex_ErrLength)], narrowed := true }
def FnDecodeEncodeUptoSaid : Prop := fnDecodeEncodeUptoRow.holds Tryd.pinned (OpenSpec.upto fnDecodeEncodeSpec)

/-- 'laws.FnDecodeEncodeAll', WHERE WHAT IT READS IS OF BULK AT MOST 1048576: true; the input reads as it did. -/
def fnDecodeEncodeAllUptoRow : OpenClaim := { program := "ytmhhhigkgfcmpaadoor", sum := "347db65d29c40796b0d7923b26260d605fbf48a49df6dbdd3a04dc8e38a25809", func := "loop.example/lib-hexvarint/laws.FnDecodeEncodeAll", spec := "fnDecodeEncodeAll", named := ["encoding/hex.ErrLength"], apart := false, laid := [("encoding/hex.ErrLength", laid_encoding_hex_ErrLength)], narrowed := true }
def FnDecodeEncodeAllUptoSaid : Prop := fnDecodeEncodeAllUptoRow.holds Tryd.pinned (OpenSpec.upto fnDecodeEncodeAllSpec)

/-- 'laws.FnDecodeJoinAll', WHERE WHAT IT READS IS OF BULK AT MOST 1048576: true; the input reads as it did. -/
def fnDecodeJoinAllUptoRow : OpenClaim := { program := "ytmhhhigkgfcmpaadoor", sum := "347db65d29c40796b0d7923b26260d605fbf48a49df6dbdd3a04dc8e38a25809", func := "loop.example/lib-hexvarint/laws.FnDecodeJoinAll", spec := "fnDecodeJoinAll", named := ["encoding/hex.ErrLength"], apart := false, laid := [("encoding/hex.ErrLength", laid_encoding_hex_ErrLength)], narrowed := true }
def FnDecodeJoinAllUptoSaid : Prop := fnDecodeJoinAllUptoRow.holds Tryd.pinned (OpenSpec.upto fnDecodeJoinAllSpec)

/-- 'laws.FnDecodeOdd', WHERE WHAT IT READS IS OF BULK AT MOST 1048576: true; the input reads as it did. -/
def fnDecodeOddUptoRow : OpenClaim := { program := "ytmhhhigkgfcmpaadoor", sum := "347db65d29c40796b0d7923b26260d605fbf48a49df6dbdd3a04dc8e38a25809", func := "loop.example/lib-hexvarint/laws.FnDecodeOdd", spec := "fnDecodeOdd", named := ["encoding/hex.ErrLength"], apart := false, laid := [("encoding/hex.ErrLength", laid_encoding_hex_ErrLength)], narrowed := true }
def FnDecodeOddUptoSaid : Prop := fnDecodeOddUptoRow.holds Tryd.pinned (OpenSpec.upto fnDecodeOddSpec)

/-- 'laws.FnDecodeUpper', WHERE WHAT IT READS IS OF BULK AT MOST 1048576: true; the input reads as it did. -/
def fnDecodeUpperUptoRow : OpenClaim := { program := "ytmhhhigkgfcmpaadoor", sum := "347db65d29c40796b0d7923b26260d605fbf48a49df6dbdd3a04dc8e38a25809", func := "loop.example/lib-hexvarint/laws.FnDecodeUpper", spec := "fnDecodeUpper", named := ["encoding/hex.ErrLength"], apart := false, laid := [("encoding/hex.ErrLength", laid_encoding_hex_ErrLength)], narrowed := true }
def FnDecodeUpperUptoSaid : Prop := fnDecodeUpperUptoRow.holds Tryd.pinned (OpenSpec.upto fnDecodeUpperSpec)

end Rows
end Go.Proofs.YtmhhhigkgfcmpaaDoor
