/-
  NARROWER THAN 'FOR EVERY INPUT', by the rows' own cells (each row's printed sentence says how): FnDecodeJoinAll: laid · FnExactAppendDecode: laid · FnExactAppendDecodeFault: laid · FnDecodeRoads: laid.
  DERIVED. THE GIVEN ROWS OF THIS SEAT. 4 by the template 'for every input the law returns true; each argument reads behind the call as it read before'; 0 by the template 'total and deterministic' (their statements: YtgkpekdgdiphdaaDoorTotals.lean).
  GIVEN WITH THE SEED: the statements are not yours to turn. If you find one false, say at which input.
  Laid BY PROGRAM, IN A SANDBOX (cutbox-rows.mjs): the forced cells as the released guide's own fill.sh prints them over the translation cc8d9c29139da3cc… (all of the seat's roots in one cut). By AI agents, Wed Nov 11 2026. No macro, syntax, notation, axiom, sorry.
-/
import Derived.Test.YtgkpekdgdiphdaaDoorChecked
import GoSem.Claim
import GoSem.ClaimJoined
import GoSem.ClaimMapViews
import Derived.JoinedTies
import Derived.KernelRfl
namespace Go.Proofs.YtgkpekdgdiphdaaDoor
/- THE CELL 'sum', in the pinned program and in every row, IS THE sha256 OF THE DUMP (.gsa) THAT YtgkpekdgdiphdaaDoorProg.lean LOADS. Nothing in Lean hashes anything: it is a label: what it is worth is what the hold of that sum in a sandbox is worth. -/
noncomputable def Tryd.pinned : Pinned := { name := "ytgkpekdgdiphdaadoor", sum := "cc8d9c29139da3cc9b7e052999846e38f84dde9e810d5aab1ed1e6d8c15b8c69", checked := Tryd.checked }
namespace Rows
def none {H : Type} : Left H := { results := [], args := [] }

/- WHAT THE LISTED PACKAGE-LEVEL VARIABLES READ AS WHEN THE CALL BEGINS. Each datum BY PROGRAM (the guide's laid-datum.mjs) off the statement by which the dump's own 'gosem.cut.vars' lays the variable. In a bare row this is a premise. The card (YtgkpekdgdiphdaaDoorCards.lean) ties it to the program's text. -/
def laid_encoding_hex_ErrLength {H : Type} : DataW H := .iface "*errors.errorString" (.ptr (.agg [.lit (.string [101, 110, 99, 111, 100, 105, 110, 103, 47, 104, 101, 120, 58, 32, 111, 100, 100, 32, 108, 101, 110, 103, 116, 104, 32, 104, 101, 120, 32, 115, 116, 114, 105, 110, 103])]))

/-- 'laws.FnDecodeJoinAll': WHATEVER THE INPUT: true; the input reads as it did. -/
def fnDecodeJoinAllSpec : ChangeSpec := { name := "fnDecodeJoinAll", fn := fun _ => fun
  | [d1, d2] => { results := [.lit (.bool true)], args := [d1, d2] }
  | _ => none }
def fnDecodeJoinAllRow : OpenClaim := { program := "ytgkpekdgdiphdaadoor", sum := "cc8d9c29139da3cc9b7e052999846e38f84dde9e810d5aab1ed1e6d8c15b8c69", func := "loop.example/lib-hexvarint/laws.FnDecodeJoinAll", spec := "fnDecodeJoinAll", named := ["encoding/hex.ErrLength"], apart := false, laid := [("encoding/hex.ErrLength", laid_encoding_hex_ErrLength)] }
def FnDecodeJoinAllSaid : Prop := fnDecodeJoinAllRow.holds Tryd.pinned (OpenSpec.ofChange fnDecodeJoinAllSpec)

/-- ITS FALSE NEIGHBOUR: 'it returns false'. Refute it at one input. -/
def fnDecodeJoinAllWrong : ChangeSpec := { name := "fnDecodeJoinAll", fn := fun _ => fun
  | [d1, d2] => { results := [.lit (.bool false)], args := [d1, d2] }
  | _ => none }
def FnDecodeJoinAllWrongFalsely : Prop := fnDecodeJoinAllRow.holds Tryd.pinned (OpenSpec.ofChange fnDecodeJoinAllWrong)

/-- 'laws.FnExactAppendDecode': WHATEVER THE INPUT: true; the input reads as it did. -/
def fnExactAppendDecodeSpec : ChangeSpec := { name := "fnExactAppendDecode", fn := fun _ => fun
  | [d1, d2] => { results := [.lit (.bool true)], args := [d1, d2] }
  | _ => none }
def fnExactAppendDecodeRow : OpenClaim := { program := "ytgkpekdgdiphdaadoor", sum := "cc8d9c29139da3cc9b7e052999846e38f84dde9e810d5aab1ed1e6d8c15b8c69", func := "loop.example/lib-hexvarint/laws.FnExactAppendDecode", spec := "fnExactAppendDecode", named := ["encoding/hex.ErrLength"], apart := false, laid := [("encoding/hex.ErrLength", laid_encoding_hex_ErrLength)] }
def FnExactAppendDecodeSaid : Prop := fnExactAppendDecodeRow.holds Tryd.pinned (OpenSpec.ofChange fnExactAppendDecodeSpec)

/-- ITS FALSE NEIGHBOUR: 'it returns false'. Refute it at one input. -/
def fnExactAppendDecodeWrong : ChangeSpec := { name := "fnExactAppendDecode", fn := fun _ => fun
  | [d1, d2] => { results := [.lit (.bool false)], args := [d1, d2] }
  | _ => none }
def FnExactAppendDecodeWrongFalsely : Prop := fnExactAppendDecodeRow.holds Tryd.pinned (OpenSpec.ofChange fnExactAppendDecodeWrong)

/-- 'laws.FnExactAppendDecodeFault': WHATEVER THE INPUT: true; the input reads as it did. -/
def fnExactAppendDecodeFaultSpec : ChangeSpec := { name := "fnExactAppendDecodeFault", fn := fun _ => fun
  | [d1, d2] => { results := [.lit (.bool true)], args := [d1, d2] }
  | _ => none }
def fnExactAppendDecodeFaultRow : OpenClaim := { program := "ytgkpekdgdiphdaadoor", sum := "cc8d9c29139da3cc9b7e052999846e38f84dde9e810d5aab1ed1e6d8c15b8c69", func := "loop.example/lib-hexvarint/laws.FnExactAppendDecodeFault", spec := "fnExactAppendDecodeFault", named := ["encoding/hex.ErrLength"], apart := false, laid := [("encoding/hex.ErrLength", laid_encoding_hex_ErrLength)] }
def FnExactAppendDecodeFaultSaid : Prop := fnExactAppendDecodeFaultRow.holds Tryd.pinned (OpenSpec.ofChange fnExactAppendDecodeFaultSpec)

/-- ITS FALSE NEIGHBOUR: 'it returns false'. Refute it at one input. -/
def fnExactAppendDecodeFaultWrong : ChangeSpec := { name := "fnExactAppendDecodeFault", fn := fun _ => fun
  | [d1, d2] => { results := [.lit (.bool false)], args := [d1, d2] }
  | _ => none }
def FnExactAppendDecodeFaultWrongFalsely : Prop := fnExactAppendDecodeFaultRow.holds Tryd.pinned (OpenSpec.ofChange fnExactAppendDecodeFaultWrong)

/-- 'laws.FnDecodeRoads': WHATEVER THE INPUT: true; the input reads as it did. -/
def fnDecodeRoadsSpec : ChangeSpec := { name := "fnDecodeRoads", fn := fun _ => fun
  | [d1, d2] => { results := [.lit (.bool true)], args := [d1, d2] }
  | _ => none }
def fnDecodeRoadsRow : OpenClaim := { program := "ytgkpekdgdiphdaadoor", sum := "cc8d9c29139da3cc9b7e052999846e38f84dde9e810d5aab1ed1e6d8c15b8c69", func := "loop.example/lib-hexvarint/laws.FnDecodeRoads", spec := "fnDecodeRoads", named := ["encoding/hex.ErrLength"], apart := false, laid := [("encoding/hex.ErrLength", laid_encoding_hex_ErrLength)] }
def FnDecodeRoadsSaid : Prop := fnDecodeRoadsRow.holds Tryd.pinned (OpenSpec.ofChange fnDecodeRoadsSpec)

/-- ITS FALSE NEIGHBOUR: 'it returns false'. Refute it at one input. -/
def fnDecodeRoadsWrong : ChangeSpec := { name := "fnDecodeRoads", fn := fun _ => fun
  | [d1, d2] => { results := [.lit (.bool false)], args := [d1, d2] }
  | _ => none }
def FnDecodeRoadsWrongFalsely : Prop := fnDecodeRoadsRow.holds Tryd.pinned (OpenSpec.ofChange fnDecodeRoadsWrong)

/- THE SECOND FORM. 'bulk': how many values and letters a reading holds, each counted each time it is reached (what is shared counts as often as it is met; a slice's spare places count too). A statement '..UptoSaid' is the law's where the arguments, and the package variables that the reading takes, are together of bulk at most 1048576: NARROWER than '..Said'. Prove '..Said' where nothing that the law and all that it calls make is longer than what came in: it says more and counts as full. Else prove '..UptoSaid'. A law counts once. -/
mutual
def uptoBulk {H : Type} : DataW H → Nat
  | .lit (.string bytes) => bytes.length + 1
  | .lit _ => 1
  | .nil => 1
  | .ptr d => uptoBulk d + 1
  | .slice elems spare => uptoBulkAll elems + uptoBulkAll spare + 1
  | .agg parts => uptoBulkAll parts + 1
  | .iface _ d => uptoBulk d + 1
  | .map entries => uptoBulkEntries entries + 1
  | .held _ => 1
def uptoBulkAll {H : Type} : List (DataW H) → Nat
  | [] => 0
  | d :: r => uptoBulk d + uptoBulkAll r
def uptoBulkEntries {H : Type} : List (Lit × DataW H) → Nat
  | [] => 0
  | x :: r => uptoBulkEntry x + uptoBulkEntries r
def uptoBulkEntry {H : Type} : Lit × DataW H → Nat
  | (.string bytes, d) => bytes.length + uptoBulk d + 1
  | (_, d) => uptoBulk d + 1
 end
def uptoSmall : (H : Type) → List (DataW H) → Bool := fun _ ds => decide (uptoBulkAll ds ≤ 1048576)
def OpenSpec.upto (s : _root_.Go.ChangeSpec) : _root_.Go.OpenSpec := { _root_.Go.OpenSpec.ofChange s with cond := some uptoSmall }

/-- 'laws.FnDecodeJoinAll', WHERE WHAT IT READS IS OF BULK AT MOST 1048576: true; the input reads as it did. -/
def fnDecodeJoinAllUptoRow : OpenClaim := { program := "ytgkpekdgdiphdaadoor", sum := "cc8d9c29139da3cc9b7e052999846e38f84dde9e810d5aab1ed1e6d8c15b8c69", func := "loop.example/lib-hexvarint/laws.FnDecodeJoinAll", spec := "fnDecodeJoinAll", named := ["encoding/hex.ErrLength"], apart := false, laid := [("encoding/hex.ErrLength", laid_encoding_hex_ErrLength)], narrowed := true }
def FnDecodeJoinAllUptoSaid : Prop := fnDecodeJoinAllUptoRow.holds Tryd.pinned (OpenSpec.upto fnDecodeJoinAllSpec)

/-- 'laws.FnExactAppendDecode', WHERE WHAT IT READS IS OF BULK AT MOST 1048576: true; the input reads as it did. -/
def fnExactAppendDecodeUptoRow : OpenClaim := { program := "ytgkpekdgdiphdaadoor", sum := "cc8d9c29139da3cc9b7e052999846e38f84dde9e810d5aab1ed1e6d8c15b8c69", func := "loop.example/lib-hexvarint/laws.FnExactAppendDecode", spec := "fnExactAppendDecode", named := ["encoding/hex.ErrLength"], apart := false, laid := [("encoding/hex.ErrLength", laid_encoding_hex_ErrLength)], narrowed := true }
def FnExactAppendDecodeUptoSaid : Prop := fnExactAppendDecodeUptoRow.holds Tryd.pinned (OpenSpec.upto fnExactAppendDecodeSpec)

/-- 'laws.FnExactAppendDecodeFault', WHERE WHAT IT READS IS OF BULK AT MOST 1048576: true; the input reads as it did. -/
def fnExactAppendDecodeFaultUptoRow : OpenClaim := { program := "ytgkpekdgdiphdaadoor", sum := "cc8d9c29139da3cc9b7e052999846e38f84dde9e810d5aab1ed1e6d8c15b8c69", func := "loop.example/lib-hexvarint/laws.FnExactAppendDecodeFault", spec := "fnExactAppendDecodeFault", named := ["encoding/hex.ErrLength"], apart := false, laid := [("encoding/hex.ErrLength", laid_encoding_hex_ErrLength)], narrowed := true }
def FnExactAppendDecodeFaultUptoSaid : Prop := fnExactAppendDecodeFaultUptoRow.holds Tryd.pinned (OpenSpec.upto fnExactAppendDecodeFaultSpec)

/-- 'laws.FnDecodeRoads', WHERE WHAT IT READS IS OF BULK AT MOST 1048576: true; the input reads as it did. -/
def fnDecodeRoadsUptoRow : OpenClaim := { program := "ytgkpekdgdiphdaadoor", sum := "cc8d9c29139da3cc9b7e052999846e38f84dde9e810d5aab1ed1e6d8c15b8c69", func := "loop.example/lib-hexvarint/laws.FnDecodeRoads", spec := "fnDecodeRoads", named := ["encoding/hex.ErrLength"], apart := false, laid := [("encoding/hex.ErrLength", laid_encoding_hex_ErrLength)], narrowed := true }
def FnDecodeRoadsUptoSaid : Prop := fnDecodeRoadsUptoRow.holds Tryd.pinned (OpenSpec.upto fnDecodeRoadsSpec)

end Rows
end Go.Proofs.YtgkpekdgdiphdaaDoor
