/-
  NARROWER THAN 'FOR EVERY INPUT', by the rows' own cells (each row's printed sentence says how): FnDecodeOdd: laid · FnDecodeJoin: laid · FnDecodeEncode: laid · FnDecodeWrong: laid · FnDecodeWrongOdd: laid · FnDecodeWrongSecond: laid.
  DERIVED. THE GIVEN ROWS OF THIS SEAT. 6 by the template 'for every input the law returns true; each argument reads behind the call as it read before'; 0 by the template 'total and deterministic' (their statements: YtnplhpckjcmgmaaDoorTotals.lean).
  GIVEN WITH THE SEED: the statements are not yours to turn. If you find one false, say at which input.
  Laid BY PROGRAM, IN A SANDBOX (cutbox-rows.mjs): the forced cells as the released guide's own fill.sh prints them over the translation cb473e242f22481a… (all of the seat's roots in one cut). By AI agents, Wed Nov 11 2026. No macro, syntax, notation, axiom, sorry.
-/
import Derived.Test.YtnplhpckjcmgmaaDoorChecked
import GoSem.Claim
import GoSem.ClaimJoined
import GoSem.ClaimMapViews
import Derived.JoinedTies
import Derived.KernelRfl
namespace Go.Proofs.YtnplhpckjcmgmaaDoor
/- THE CELL 'sum', in the pinned program and in every row, IS THE sha256 OF THE DUMP (.gsa) THAT YtnplhpckjcmgmaaDoorProg.lean LOADS. Nothing in Lean hashes anything: it is a label: what it is worth is what the hold of that sum in a sandbox is worth. -/
noncomputable def Tryd.pinned : Pinned := { name := "ytnplhpckjcmgmaadoor", sum := "cb473e242f22481a9dbd94b540807a2ece9da48c5d526c93258a6f32ed22bc76", checked := Tryd.checked }
namespace Rows
def none {H : Type} : Left H := { results := [], args := [] }

/- WHAT THE LISTED PACKAGE-LEVEL VARIABLES READ AS WHEN THE CALL BEGINS. Each datum BY PROGRAM (the guide's laid-datum.mjs) off the statement by which the dump's own 'gosem.cut.vars' lays the variable. In a bare row this is a premise. The card (YtnplhpckjcmgmaaDoorCards.lean) ties it to the program's text. -/
def laid_encoding_hex_ErrLength {H : Type} : DataW H := .iface "*errors.errorString" (.ptr (.agg [.lit (.string [101, 110, 99, 111, 100, 105, 110, 103, 47, 104, 101, 120, 58, 32, 111, 100, 100, 32, 108, 101, 110, 103, 116, 104, 32, 104, 101, 120, 32, 115, 116, 114, 105, 110, 103])]))

/-- 'laws.FnDecodeOdd': WHATEVER THE INPUT: true; the input reads as it did. -/
def fnDecodeOddSpec : ChangeSpec := { name := "fnDecodeOdd", fn := fun _ => fun
  | [d1, d2] => { results := [.lit (.bool true)], args := [d1, d2] }
  | _ => none }
def fnDecodeOddRow : OpenClaim := { program := "ytnplhpckjcmgmaadoor", sum := "cb473e242f22481a9dbd94b540807a2ece9da48c5d526c93258a6f32ed22bc76", func := "loop.example/lib-hexvarint/laws.FnDecodeOdd", spec := "fnDecodeOdd", named := ["encoding/hex.ErrLength"], apart := false, laid := [("encoding/hex.ErrLength", laid_encoding_hex_ErrLength)] }
def FnDecodeOddSaid : Prop := fnDecodeOddRow.holds Tryd.pinned (OpenSpec.ofChange fnDecodeOddSpec)

/-- ITS FALSE NEIGHBOUR: 'it returns false'. Refute it at one input. -/
def fnDecodeOddWrong : ChangeSpec := { name := "fnDecodeOdd", fn := fun _ => fun
  | [d1, d2] => { results := [.lit (.bool false)], args := [d1, d2] }
  | _ => none }
def FnDecodeOddWrongFalsely : Prop := fnDecodeOddRow.holds Tryd.pinned (OpenSpec.ofChange fnDecodeOddWrong)

/-- 'laws.FnDecodeJoin': WHATEVER THE INPUT: true; the input reads as it did. -/
def fnDecodeJoinSpec : ChangeSpec := { name := "fnDecodeJoin", fn := fun _ => fun
  | [d] => { results := [.lit (.bool true)], args := [d] }
  | _ => none }
def fnDecodeJoinRow : OpenClaim := { program := "ytnplhpckjcmgmaadoor", sum := "cb473e242f22481a9dbd94b540807a2ece9da48c5d526c93258a6f32ed22bc76", func := "loop.example/lib-hexvarint/laws.FnDecodeJoin", spec := "fnDecodeJoin", named := ["encoding/hex.ErrLength"], apart := false, laid := [("encoding/hex.ErrLength", laid_encoding_hex_ErrLength)] }
def FnDecodeJoinSaid : Prop := fnDecodeJoinRow.holds Tryd.pinned (OpenSpec.ofChange fnDecodeJoinSpec)

/-- ITS FALSE NEIGHBOUR: 'it returns false'. Refute it at one input. -/
def fnDecodeJoinWrong : ChangeSpec := { name := "fnDecodeJoin", fn := fun _ => fun
  | [d] => { results := [.lit (.bool false)], args := [d] }
  | _ => none }
def FnDecodeJoinWrongFalsely : Prop := fnDecodeJoinRow.holds Tryd.pinned (OpenSpec.ofChange fnDecodeJoinWrong)

/-- 'laws.FnDecodeEncode': WHATEVER THE INPUT: true; the input reads as it did. -/
def fnDecodeEncodeSpec : ChangeSpec := { name := "fnDecodeEncode", fn := fun _ => fun
  | [d] => { results := [.lit (.bool true)], args := [d] }
  | _ => none }
def fnDecodeEncodeRow : OpenClaim := { program := "ytnplhpckjcmgmaadoor", sum := "cb473e242f22481a9dbd94b540807a2ece9da48c5d526c93258a6f32ed22bc76", func := "loop.example/lib-hexvarint/laws.FnDecodeEncode", spec := "fnDecodeEncode", named := ["encoding/hex.ErrLength"], apart := false, laid := [("encoding/hex.ErrLength", laid_encoding_hex_ErrLength)] }
def FnDecodeEncodeSaid : Prop := fnDecodeEncodeRow.holds Tryd.pinned (OpenSpec.ofChange fnDecodeEncodeSpec)

/-- ITS FALSE NEIGHBOUR: 'it returns false'. Refute it at one input. -/
def fnDecodeEncodeWrong : ChangeSpec := { name := "fnDecodeEncode", fn := fun _ => fun
  | [d] => { results := [.lit (.bool false)], args := [d] }
  | _ => none }
def FnDecodeEncodeWrongFalsely : Prop := fnDecodeEncodeRow.holds Tryd.pinned (OpenSpec.ofChange fnDecodeEncodeWrong)

/-- 'laws.FnDecodeWrong': WHATEVER THE INPUT: true; the input reads as it did. -/
def fnDecodeWrongSpec : ChangeSpec := { name := "fnDecodeWrong", fn := fun _ => fun
  | [d1, d2, d3] => { results := [.lit (.bool true)], args := [d1, d2, d3] }
  | _ => none }
def fnDecodeWrongRow : OpenClaim := { program := "ytnplhpckjcmgmaadoor", sum := "cb473e242f22481a9dbd94b540807a2ece9da48c5d526c93258a6f32ed22bc76", func := "loop.example/lib-hexvarint/laws.FnDecodeWrong", spec := "fnDecodeWrong", named := ["encoding/hex.ErrLength"], apart := false, laid := [("encoding/hex.ErrLength", laid_encoding_hex_ErrLength)] }
def FnDecodeWrongSaid : Prop := fnDecodeWrongRow.holds Tryd.pinned (OpenSpec.ofChange fnDecodeWrongSpec)

/-- ITS FALSE NEIGHBOUR: 'it returns false'. Refute it at one input. -/
def fnDecodeWrongWrong : ChangeSpec := { name := "fnDecodeWrong", fn := fun _ => fun
  | [d1, d2, d3] => { results := [.lit (.bool false)], args := [d1, d2, d3] }
  | _ => none }
def FnDecodeWrongWrongFalsely : Prop := fnDecodeWrongRow.holds Tryd.pinned (OpenSpec.ofChange fnDecodeWrongWrong)

/-- 'laws.FnDecodeWrongOdd': WHATEVER THE INPUT: true; the input reads as it did. -/
def fnDecodeWrongOddSpec : ChangeSpec := { name := "fnDecodeWrongOdd", fn := fun _ => fun
  | [d1, d2, d3] => { results := [.lit (.bool true)], args := [d1, d2, d3] }
  | _ => none }
def fnDecodeWrongOddRow : OpenClaim := { program := "ytnplhpckjcmgmaadoor", sum := "cb473e242f22481a9dbd94b540807a2ece9da48c5d526c93258a6f32ed22bc76", func := "loop.example/lib-hexvarint/laws.FnDecodeWrongOdd", spec := "fnDecodeWrongOdd", named := ["encoding/hex.ErrLength"], apart := false, laid := [("encoding/hex.ErrLength", laid_encoding_hex_ErrLength)] }
def FnDecodeWrongOddSaid : Prop := fnDecodeWrongOddRow.holds Tryd.pinned (OpenSpec.ofChange fnDecodeWrongOddSpec)

/-- ITS FALSE NEIGHBOUR: 'it returns false'. Refute it at one input. -/
def fnDecodeWrongOddWrong : ChangeSpec := { name := "fnDecodeWrongOdd", fn := fun _ => fun
  | [d1, d2, d3] => { results := [.lit (.bool false)], args := [d1, d2, d3] }
  | _ => none }
def FnDecodeWrongOddWrongFalsely : Prop := fnDecodeWrongOddRow.holds Tryd.pinned (OpenSpec.ofChange fnDecodeWrongOddWrong)

/-- 'laws.FnDecodeWrongSecond': WHATEVER THE INPUT: true; the input reads as it did. -/
def fnDecodeWrongSecondSpec : ChangeSpec := { name := "fnDecodeWrongSecond", fn := fun _ => fun
  | [d1, d2, d3, d4] => { results := [.lit (.bool true)], args := [d1, d2, d3, d4] }
  | _ => none }
def fnDecodeWrongSecondRow : OpenClaim := { program := "ytnplhpckjcmgmaadoor", sum := "cb473e242f22481a9dbd94b540807a2ece9da48c5d526c93258a6f32ed22bc76", func := "loop.example/lib-hexvarint/laws.FnDecodeWrongSecond", spec := "fnDecodeWrongSecond", named := ["encoding/hex.ErrLength"], apart := false, laid := [("encoding/hex.ErrLength", laid_encoding_hex_ErrLength)] }
def FnDecodeWrongSecondSaid : Prop := fnDecodeWrongSecondRow.holds Tryd.pinned (OpenSpec.ofChange fnDecodeWrongSecondSpec)

/-- ITS FALSE NEIGHBOUR: 'it returns false'. Refute it at one input. -/
def fnDecodeWrongSecondWrong : ChangeSpec := { name := "fnDecodeWrongSecond", fn := fun _ => fun
  | [d1, d2, d3, d4] => { results := [.lit (.bool false)], args := [d1, d2, d3, d4] }
  | _ => none }
def FnDecodeWrongSecondWrongFalsely : Prop := fnDecodeWrongSecondRow.holds Tryd.pinned (OpenSpec.ofChange fnDecodeWrongSecondWrong)

/- THE SECOND FORM. 'bulk': how many values and letters a reading holds, each counted each time it is reached (what is shared counts as often as it is met; a slice's spare places count too). A statement '..UptoSaid' is the law's where the arguments, and the package variables that the reading takes, are together of bulk at most 1048576: NARROWER than '..Said'. Prove '..Said' where nothing that the law and all that it calls make is longer than what came in: it says more and counts as full. Else prove '..UptoSaid'. A law counts once. -/
mutual
def uptoBulk {H : Type} : DataW H → Nat
  | .lit (.string bytes) => bytes.length + 1
  | .lit _ => 1
  | .nil => 1
  | .ptr d => uptoBulk d + 1
  | .slice elems spare => uptoBulkAll elems + uptoBulkAll spare + 1
  | .agg parts => uptoBulkAll parts + 1
  | .iface _ d => uptoBulk d + 1
  | .map entries => uptoBulkEntries entries + 1
  | .held _ => 1
def uptoBulkAll {H : Type} : List (DataW H) → Nat
  | [] => 0
  | d :: r => uptoBulk d + uptoBulkAll r
def uptoBulkEntries {H : Type} : List (Lit × DataW H) → Nat
  | [] => 0
  | x :: r => uptoBulkEntry x + uptoBulkEntries r
def uptoBulkEntry {H : Type} : Lit × DataW H → Nat
  | (.string bytes, d) => bytes.length + uptoBulk d + 1
  | (_, d) => uptoBulk d + 1
 end
def uptoSmall : (H : Type) → List (DataW H) → Bool := fun _ ds => decide (uptoBulkAll ds ≤ 1048576)
def OpenSpec.upto (s : _root_.Go.ChangeSpec) : _root_.Go.OpenSpec := { _root_.Go.OpenSpec.ofChange s with cond := some uptoSmall }

/-- 'laws.FnDecodeOdd', WHERE WHAT IT READS IS OF BULK AT MOST 1048576: true; the input reads as it did. -/
def fnDecodeOddUptoRow : OpenClaim := { program := "ytnplhpckjcmgmaadoor", sum := "cb473e242f22481a9dbd94b540807a2ece9da48c5d526c93258a6f32ed22bc76", func := "loop.example/lib-hexvarint/laws.FnDecodeOdd", spec := "fnDecodeOdd", named := ["encoding/hex.ErrLength"], apart := false, laid := [("encoding/hex.ErrLength", laid_encoding_hex_ErrLength)], narrowed := true }
def FnDecodeOddUptoSaid : Prop := fnDecodeOddUptoRow.holds Tryd.pinned (OpenSpec.upto fnDecodeOddSpec)

/-- 'laws.FnDecodeJoin', WHERE WHAT IT READS IS OF BULK AT MOST 1048576: true; the input reads as it did. -/
def fnDecodeJoinUptoRow : OpenClaim := { program := "ytnplhpckjcmgmaadoor", sum := "cb473e242f22481a9dbd94b540807a2ece9da48c5d526c93258a6f32ed22bc76", func := "loop.example/lib-hexvarint/laws.FnDecodeJoin", spec := "fnDecodeJoin", named := ["encoding/hex.ErrLength"], apart := false, laid := [("encoding/hex.ErrLength", laid_encoding_hex_ErrLength)], narrowed := true }
def FnDecodeJoinUptoSaid : Prop := fnDecodeJoinUptoRow.holds Tryd.pinned (OpenSpec.upto fnDecodeJoinSpec)

/-- 'laws.FnDecodeEncode', WHERE WHAT IT READS IS OF BULK AT MOST 1048576: true; the input reads as it did. -/
def fnDecodeEncodeUptoRow : OpenClaim := { program := "ytnplhpckjcmgmaadoor", sum := "cb473e242f22481a9dbd94b540807a2ece9da48c5d526c93258a6f32ed22bc76", func := "loop.example/lib-hexvarint/laws.FnDecodeEncode", spec := "fnDecodeEncode", named := ["encoding/hex.ErrLength"], apart := false, laid := [("encoding/hex.ErrLength", laid_encoding_hex_ErrLength)], narrowed := true }
def FnDecodeEncodeUptoSaid : Prop := fnDecodeEncodeUptoRow.holds Tryd.pinned (OpenSpec.upto fnDecodeEncodeSpec)

/-- 'laws.FnDecodeWrong', WHERE WHAT IT READS IS OF BULK AT MOST 1048576: true; the input reads as it did. -/
def fnDecodeWrongUptoRow : OpenClaim := { program := "ytnplhpckjcmgmaadoor", sum := "cb473e242f22481a9dbd94b540807a2ece9da48c5d526c93258a6f32ed22bc76", func := "loop.example/lib-hexvarint/laws.FnDecodeWrong", spec := "fnDecodeWrong", named := ["encoding/hex.ErrLength"], apart := false, laid := [("encoding/hex.ErrLength", laid_encoding_hex_ErrLength)], narrowed := true }
def FnDecodeWrongUptoSaid : Prop := fnDecodeWrongUptoRow.holds Tryd.pinned (OpenSpec.upto fnDecodeWrongSpec)

/-- 'laws.FnDecodeWrongOdd', WHERE WHAT IT READS IS OF BULK AT MOST 1048576: true; the input reads as it did. -/
def fnDecodeWrongOddUptoRow : OpenClaim := { program := "ytnplhpckjcmgmaadoor", sum := "cb473e242f22481a9dbd94b540807a2ece9da48c5d526c93258a6f32ed22bc76", func := "loop.example/lib-hexvarint/laws.FnDecodeWrongOdd", spec := "fnDecodeWrongOdd", named := ["encoding/hex.ErrLength"], apart := false, laid := [("encoding/hex.ErrLength", laid_encoding_hex_ErrLength)], narrowed := true }
def FnDecodeWrongOddUptoSaid : Prop := fnDecodeWrongOddUptoRow.holds Tryd.pinned (OpenSpec.upto fnDecodeWrongOddSpec)

/-- 'laws.FnDecodeWrongSecond', WHERE WHAT IT READS IS OF BULK AT MOST 1048576: true; the input reads as it did. -/
def fnDecodeWrongSecondUptoRow : OpenClaim := { program := "ytnplhpckjcmgmaadoor", sum := "cb473e242f22481a9dbd94b540807a2ece9da48c5d526c93258a6f32ed22bc76", func := "loop.example/lib-hexvarint/laws.FnDecodeWrongSecond", spec := "fnDecodeWrongSecond", named := ["encoding/hex.ErrLength"], apart := false, laid := [("encoding/hex.ErrLength", laid_encoding_hex_ErrLength)], narrowed := true }
def FnDecodeWrongSecondUptoSaid : Prop := fnDecodeWrongSecondUptoRow.holds Tryd.pinned (OpenSpec.upto fnDecodeWrongSecondSpec)

end Rows
end Go.Proofs.YtnplhpckjcmgmaaDoor
