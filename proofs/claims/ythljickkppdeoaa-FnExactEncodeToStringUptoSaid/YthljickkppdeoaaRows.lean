/-
  No cell of these rows narrows 'for every input' (looked for: loops, veiled, ifaces, maps, wideKeys, modest, calm, conditions, laid).
  DERIVED. THE GIVEN ROWS OF THIS SEAT. 12 by the template 'for every input the law returns true; each argument reads behind the call as it read before'; 0 by the template 'total and deterministic' (their statements: YthljickkppdeoaaTotals.lean).
  GIVEN WITH THE SEED: the statements are not yours to turn. If you find one false, say at which input.
  Laid BY PROGRAM, IN A SANDBOX (cutbox-rows.mjs): the forced cells as the released guide's own fill.sh prints them over the translation 907cc819be24dbdc… (all of the seat's roots in one cut). By AI agents, Wed Nov 11 2026. No macro, syntax, notation, axiom, sorry.
-/
import Derived.Test.YthljickkppdeoaaChecked
import GoSem.Claim
import GoSem.ClaimJoined
import GoSem.ClaimMapViews
import Derived.JoinedTies
import Derived.KernelRfl
namespace Go.Proofs.Ythljickkppdeoaa
/- THE CELL 'sum', in the pinned program and in every row, IS THE sha256 OF THE DUMP (.gsa) THAT YthljickkppdeoaaProg.lean LOADS. Nothing in Lean hashes anything: it is a label: what it is worth is what the hold of that sum in a sandbox is worth. -/
noncomputable def Try.pinned : Pinned := { name := "ythljickkppdeoaa", sum := "907cc819be24dbdcdcb1c5f866a46dbab0b433ff275e966481b091a86936e1cd", checked := Try.checked }
namespace Rows
def none {H : Type} : Left H := { results := [], args := [] }

/-- 'laws.FnDecodedLenUp': WHATEVER THE INPUT: true; the input reads as it did. -/
def fnDecodedLenUpSpec : ChangeSpec := { name := "fnDecodedLenUp", fn := fun _ => fun
  | [d1, d2] => { results := [.lit (.bool true)], args := [d1, d2] }
  | _ => none }
def fnDecodedLenUpRow : OpenClaim := { program := "ythljickkppdeoaa", sum := "907cc819be24dbdcdcb1c5f866a46dbab0b433ff275e966481b091a86936e1cd", func := "loop.example/lib-hexvarint/laws.FnDecodedLenUp", spec := "fnDecodedLenUp", apart := false }
def FnDecodedLenUpSaid : Prop := fnDecodedLenUpRow.holds Try.pinned (OpenSpec.ofChange fnDecodedLenUpSpec)

/-- ITS FALSE NEIGHBOUR: 'it returns false'. Refute it at one input. -/
def fnDecodedLenUpWrong : ChangeSpec := { name := "fnDecodedLenUp", fn := fun _ => fun
  | [d1, d2] => { results := [.lit (.bool false)], args := [d1, d2] }
  | _ => none }
def FnDecodedLenUpWrongFalsely : Prop := fnDecodedLenUpRow.holds Try.pinned (OpenSpec.ofChange fnDecodedLenUpWrong)

/-- 'laws.FnExactDecodedLen': WHATEVER THE INPUT: true; the input reads as it did. -/
def fnExactDecodedLenSpec : ChangeSpec := { name := "fnExactDecodedLen", fn := fun _ => fun
  | [d] => { results := [.lit (.bool true)], args := [d] }
  | _ => none }
def fnExactDecodedLenRow : OpenClaim := { program := "ythljickkppdeoaa", sum := "907cc819be24dbdcdcb1c5f866a46dbab0b433ff275e966481b091a86936e1cd", func := "loop.example/lib-hexvarint/laws.FnExactDecodedLen", spec := "fnExactDecodedLen", apart := false }
def FnExactDecodedLenSaid : Prop := fnExactDecodedLenRow.holds Try.pinned (OpenSpec.ofChange fnExactDecodedLenSpec)

/-- ITS FALSE NEIGHBOUR: 'it returns false'. Refute it at one input. -/
def fnExactDecodedLenWrong : ChangeSpec := { name := "fnExactDecodedLen", fn := fun _ => fun
  | [d] => { results := [.lit (.bool false)], args := [d] }
  | _ => none }
def FnExactDecodedLenWrongFalsely : Prop := fnExactDecodedLenRow.holds Try.pinned (OpenSpec.ofChange fnExactDecodedLenWrong)

/-- 'laws.FnExactEncodedLen': WHATEVER THE INPUT: true; the input reads as it did. -/
def fnExactEncodedLenSpec : ChangeSpec := { name := "fnExactEncodedLen", fn := fun _ => fun
  | [d] => { results := [.lit (.bool true)], args := [d] }
  | _ => none }
def fnExactEncodedLenRow : OpenClaim := { program := "ythljickkppdeoaa", sum := "907cc819be24dbdcdcb1c5f866a46dbab0b433ff275e966481b091a86936e1cd", func := "loop.example/lib-hexvarint/laws.FnExactEncodedLen", spec := "fnExactEncodedLen", apart := false }
def FnExactEncodedLenSaid : Prop := fnExactEncodedLenRow.holds Try.pinned (OpenSpec.ofChange fnExactEncodedLenSpec)

/-- ITS FALSE NEIGHBOUR: 'it returns false'. Refute it at one input. -/
def fnExactEncodedLenWrong : ChangeSpec := { name := "fnExactEncodedLen", fn := fun _ => fun
  | [d] => { results := [.lit (.bool false)], args := [d] }
  | _ => none }
def FnExactEncodedLenWrongFalsely : Prop := fnExactEncodedLenRow.holds Try.pinned (OpenSpec.ofChange fnExactEncodedLenWrong)

/-- 'laws.FnLens': WHATEVER THE INPUT: true; the input reads as it did. -/
def fnLensSpec : ChangeSpec := { name := "fnLens", fn := fun _ => fun
  | [d] => { results := [.lit (.bool true)], args := [d] }
  | _ => none }
def fnLensRow : OpenClaim := { program := "ythljickkppdeoaa", sum := "907cc819be24dbdcdcb1c5f866a46dbab0b433ff275e966481b091a86936e1cd", func := "loop.example/lib-hexvarint/laws.FnLens", spec := "fnLens", apart := false }
def FnLensSaid : Prop := fnLensRow.holds Try.pinned (OpenSpec.ofChange fnLensSpec)

/-- ITS FALSE NEIGHBOUR: 'it returns false'. Refute it at one input. -/
def fnLensWrong : ChangeSpec := { name := "fnLens", fn := fun _ => fun
  | [d] => { results := [.lit (.bool false)], args := [d] }
  | _ => none }
def FnLensWrongFalsely : Prop := fnLensRow.holds Try.pinned (OpenSpec.ofChange fnLensWrong)

/-- 'laws.FnEncodeDigits': WHATEVER THE INPUT: true; the input reads as it did. -/
def fnEncodeDigitsSpec : ChangeSpec := { name := "fnEncodeDigits", fn := fun _ => fun
  | [d] => { results := [.lit (.bool true)], args := [d] }
  | _ => none }
def fnEncodeDigitsRow : OpenClaim := { program := "ythljickkppdeoaa", sum := "907cc819be24dbdcdcb1c5f866a46dbab0b433ff275e966481b091a86936e1cd", func := "loop.example/lib-hexvarint/laws.FnEncodeDigits", spec := "fnEncodeDigits", apart := false }
def FnEncodeDigitsSaid : Prop := fnEncodeDigitsRow.holds Try.pinned (OpenSpec.ofChange fnEncodeDigitsSpec)

/-- ITS FALSE NEIGHBOUR: 'it returns false'. Refute it at one input. -/
def fnEncodeDigitsWrong : ChangeSpec := { name := "fnEncodeDigits", fn := fun _ => fun
  | [d] => { results := [.lit (.bool false)], args := [d] }
  | _ => none }
def FnEncodeDigitsWrongFalsely : Prop := fnEncodeDigitsRow.holds Try.pinned (OpenSpec.ofChange fnEncodeDigitsWrong)

/-- 'laws.FnEncodeJoin': WHATEVER THE INPUT: true; the input reads as it did. -/
def fnEncodeJoinSpec : ChangeSpec := { name := "fnEncodeJoin", fn := fun _ => fun
  | [d1, d2] => { results := [.lit (.bool true)], args := [d1, d2] }
  | _ => none }
def fnEncodeJoinRow : OpenClaim := { program := "ythljickkppdeoaa", sum := "907cc819be24dbdcdcb1c5f866a46dbab0b433ff275e966481b091a86936e1cd", func := "loop.example/lib-hexvarint/laws.FnEncodeJoin", spec := "fnEncodeJoin", apart := false }
def FnEncodeJoinSaid : Prop := fnEncodeJoinRow.holds Try.pinned (OpenSpec.ofChange fnEncodeJoinSpec)

/-- ITS FALSE NEIGHBOUR: 'it returns false'. Refute it at one input. -/
def fnEncodeJoinWrong : ChangeSpec := { name := "fnEncodeJoin", fn := fun _ => fun
  | [d1, d2] => { results := [.lit (.bool false)], args := [d1, d2] }
  | _ => none }
def FnEncodeJoinWrongFalsely : Prop := fnEncodeJoinRow.holds Try.pinned (OpenSpec.ofChange fnEncodeJoinWrong)

/-- 'laws.FnEncodeOne': WHATEVER THE INPUT: true; the input reads as it did. -/
def fnEncodeOneSpec : ChangeSpec := { name := "fnEncodeOne", fn := fun _ => fun
  | [d] => { results := [.lit (.bool true)], args := [d] }
  | _ => none }
def fnEncodeOneRow : OpenClaim := { program := "ythljickkppdeoaa", sum := "907cc819be24dbdcdcb1c5f866a46dbab0b433ff275e966481b091a86936e1cd", func := "loop.example/lib-hexvarint/laws.FnEncodeOne", spec := "fnEncodeOne", apart := false }
def FnEncodeOneSaid : Prop := fnEncodeOneRow.holds Try.pinned (OpenSpec.ofChange fnEncodeOneSpec)

/-- ITS FALSE NEIGHBOUR: 'it returns false'. Refute it at one input. -/
def fnEncodeOneWrong : ChangeSpec := { name := "fnEncodeOne", fn := fun _ => fun
  | [d] => { results := [.lit (.bool false)], args := [d] }
  | _ => none }
def FnEncodeOneWrongFalsely : Prop := fnEncodeOneRow.holds Try.pinned (OpenSpec.ofChange fnEncodeOneWrong)

/-- 'laws.FnEncodeOrder': WHATEVER THE INPUT: true; the input reads as it did. -/
def fnEncodeOrderSpec : ChangeSpec := { name := "fnEncodeOrder", fn := fun _ => fun
  | [d] => { results := [.lit (.bool true)], args := [d] }
  | _ => none }
def fnEncodeOrderRow : OpenClaim := { program := "ythljickkppdeoaa", sum := "907cc819be24dbdcdcb1c5f866a46dbab0b433ff275e966481b091a86936e1cd", func := "loop.example/lib-hexvarint/laws.FnEncodeOrder", spec := "fnEncodeOrder", apart := false }
def FnEncodeOrderSaid : Prop := fnEncodeOrderRow.holds Try.pinned (OpenSpec.ofChange fnEncodeOrderSpec)

/-- ITS FALSE NEIGHBOUR: 'it returns false'. Refute it at one input. -/
def fnEncodeOrderWrong : ChangeSpec := { name := "fnEncodeOrder", fn := fun _ => fun
  | [d] => { results := [.lit (.bool false)], args := [d] }
  | _ => none }
def FnEncodeOrderWrongFalsely : Prop := fnEncodeOrderRow.holds Try.pinned (OpenSpec.ofChange fnEncodeOrderWrong)

/-- 'laws.FnEncodeOrderAll': WHATEVER THE INPUT: true; the input reads as it did. -/
def fnEncodeOrderAllSpec : ChangeSpec := { name := "fnEncodeOrderAll", fn := fun _ => fun
  | [d1, d2] => { results := [.lit (.bool true)], args := [d1, d2] }
  | _ => none }
def fnEncodeOrderAllRow : OpenClaim := { program := "ythljickkppdeoaa", sum := "907cc819be24dbdcdcb1c5f866a46dbab0b433ff275e966481b091a86936e1cd", func := "loop.example/lib-hexvarint/laws.FnEncodeOrderAll", spec := "fnEncodeOrderAll", apart := false }
def FnEncodeOrderAllSaid : Prop := fnEncodeOrderAllRow.holds Try.pinned (OpenSpec.ofChange fnEncodeOrderAllSpec)

/-- ITS FALSE NEIGHBOUR: 'it returns false'. Refute it at one input. -/
def fnEncodeOrderAllWrong : ChangeSpec := { name := "fnEncodeOrderAll", fn := fun _ => fun
  | [d1, d2] => { results := [.lit (.bool false)], args := [d1, d2] }
  | _ => none }
def FnEncodeOrderAllWrongFalsely : Prop := fnEncodeOrderAllRow.holds Try.pinned (OpenSpec.ofChange fnEncodeOrderAllWrong)

/-- 'laws.FnEncodeTurned': WHATEVER THE INPUT: true; the input reads as it did. -/
def fnEncodeTurnedSpec : ChangeSpec := { name := "fnEncodeTurned", fn := fun _ => fun
  | [d] => { results := [.lit (.bool true)], args := [d] }
  | _ => none }
def fnEncodeTurnedRow : OpenClaim := { program := "ythljickkppdeoaa", sum := "907cc819be24dbdcdcb1c5f866a46dbab0b433ff275e966481b091a86936e1cd", func := "loop.example/lib-hexvarint/laws.FnEncodeTurned", spec := "fnEncodeTurned", apart := false }
def FnEncodeTurnedSaid : Prop := fnEncodeTurnedRow.holds Try.pinned (OpenSpec.ofChange fnEncodeTurnedSpec)

/-- ITS FALSE NEIGHBOUR: 'it returns false'. Refute it at one input. -/
def fnEncodeTurnedWrong : ChangeSpec := { name := "fnEncodeTurned", fn := fun _ => fun
  | [d] => { results := [.lit (.bool false)], args := [d] }
  | _ => none }
def FnEncodeTurnedWrongFalsely : Prop := fnEncodeTurnedRow.holds Try.pinned (OpenSpec.ofChange fnEncodeTurnedWrong)

/-- 'laws.FnExactEncodeToString': WHATEVER THE INPUT: true; the input reads as it did. -/
def fnExactEncodeToStringSpec : ChangeSpec := { name := "fnExactEncodeToString", fn := fun _ => fun
  | [d] => { results := [.lit (.bool true)], args := [d] }
  | _ => none }
def fnExactEncodeToStringRow : OpenClaim := { program := "ythljickkppdeoaa", sum := "907cc819be24dbdcdcb1c5f866a46dbab0b433ff275e966481b091a86936e1cd", func := "loop.example/lib-hexvarint/laws.FnExactEncodeToString", spec := "fnExactEncodeToString", apart := false }
def FnExactEncodeToStringSaid : Prop := fnExactEncodeToStringRow.holds Try.pinned (OpenSpec.ofChange fnExactEncodeToStringSpec)

/-- ITS FALSE NEIGHBOUR: 'it returns false'. Refute it at one input. -/
def fnExactEncodeToStringWrong : ChangeSpec := { name := "fnExactEncodeToString", fn := fun _ => fun
  | [d] => { results := [.lit (.bool false)], args := [d] }
  | _ => none }
def FnExactEncodeToStringWrongFalsely : Prop := fnExactEncodeToStringRow.holds Try.pinned (OpenSpec.ofChange fnExactEncodeToStringWrong)

/-- 'laws.FnEncodeLen': WHATEVER THE INPUT: true; the input reads as it did. -/
def fnEncodeLenSpec : ChangeSpec := { name := "fnEncodeLen", fn := fun _ => fun
  | [d] => { results := [.lit (.bool true)], args := [d] }
  | _ => none }
def fnEncodeLenRow : OpenClaim := { program := "ythljickkppdeoaa", sum := "907cc819be24dbdcdcb1c5f866a46dbab0b433ff275e966481b091a86936e1cd", func := "loop.example/lib-hexvarint/laws.FnEncodeLen", spec := "fnEncodeLen", apart := false }
def FnEncodeLenSaid : Prop := fnEncodeLenRow.holds Try.pinned (OpenSpec.ofChange fnEncodeLenSpec)

/-- ITS FALSE NEIGHBOUR: 'it returns false'. Refute it at one input. -/
def fnEncodeLenWrong : ChangeSpec := { name := "fnEncodeLen", fn := fun _ => fun
  | [d] => { results := [.lit (.bool false)], args := [d] }
  | _ => none }
def FnEncodeLenWrongFalsely : Prop := fnEncodeLenRow.holds Try.pinned (OpenSpec.ofChange fnEncodeLenWrong)

/- THE SECOND FORM. 'bulk': how many values and letters a reading holds, each counted each time it is reached (what is shared counts as often as it is met; a slice's spare places count too). A statement '..UptoSaid' is the law's where the arguments, and the package variables that the reading takes, are together of bulk at most 1048576: NARROWER than '..Said'. Prove '..Said' where nothing that the law and all that it calls make is longer than what came in: it says more and counts as full. Else prove '..UptoSaid'. A law counts once. -/
mutual
def uptoBulk {H : Type} : DataW H → Nat
  | .lit (.string bytes) => bytes.length + 1
  | .lit _ => 1
  | .nil => 1
  | .ptr d => uptoBulk d + 1
  | .slice elems spare => uptoBulkAll elems + uptoBulkAll spare + 1
  | .agg parts => uptoBulkAll parts + 1
  | .iface _ d => uptoBulk d + 1
  | .map entries => uptoBulkEntries entries + 1
  | .held _ => 1
def uptoBulkAll {H : Type} : List (DataW H) → Nat
  | [] => 0
  | d :: r => uptoBulk d + uptoBulkAll r
def uptoBulkEntries {H : Type} : List (Lit × DataW H) → Nat
  | [] => 0
  | x :: r => uptoBulkEntry x + uptoBulkEntries r
def uptoBulkEntry {H : Type} : Lit × DataW H → Nat
  | (.string bytes, d) => bytes.length + uptoBulk d + 1
  | (_, d) => uptoBulk d + 1
 end
def uptoSmall : (H : Type) → List (DataW H) → Bool := fun _ ds => decide (uptoBulkAll ds ≤ 1048576)
def OpenSpec.upto (s : _root_.Go.ChangeSpec) : _root_.Go.OpenSpec := { _root_.Go.OpenSpec.ofChange s with cond := some uptoSmall }

/-- 'laws.FnDecodedLenUp', WHERE WHAT IT READS IS OF BULK AT MOST 1048576: true; the input reads as it did. -/
def fnDecodedLenUpUptoRow : OpenClaim := { program := "ythljickkppdeoaa", sum := "907cc819be24dbdcdcb1c5f866a46dbab0b433ff275e966481b091a86936e1cd", func := "loop.example/lib-hexvarint/laws.FnDecodedLenUp", spec := "fnDecodedLenUp", apart := false, narrowed := true }
def FnDecodedLenUpUptoSaid : Prop := fnDecodedLenUpUptoRow.holds Try.pinned (OpenSpec.upto fnDecodedLenUpSpec)

/-- 'laws.FnExactDecodedLen', WHERE WHAT IT READS IS OF BULK AT MOST 1048576: true; the input reads as it did. -/
def fnExactDecodedLenUptoRow : OpenClaim := { program := "ythljickkppdeoaa", sum := "907cc819be24dbdcdcb1c5f866a46dbab0b433ff275e966481b091a86936e1cd", func := "loop.example/lib-hexvarint/laws.FnExactDecodedLen", spec := "fnExactDecodedLen", apart := false, narrowed := true }
def FnExactDecodedLenUptoSaid : Prop := fnExactDecodedLenUptoRow.holds Try.pinned (OpenSpec.upto fnExactDecodedLenSpec)

/-- 'laws.FnExactEncodedLen', WHERE WHAT IT READS IS OF BULK AT MOST 1048576: true; the input reads as it did. -/
def fnExactEncodedLenUptoRow : OpenClaim := { program := "ythljickkppdeoaa", sum := "907cc819be24dbdcdcb1c5f866a46dbab0b433ff275e966481b091a86936e1cd", func := "loop.example/lib-hexvarint/laws.FnExactEncodedLen", spec := "fnExactEncodedLen", apart := false, narrowed := true }
def FnExactEncodedLenUptoSaid : Prop := fnExactEncodedLenUptoRow.holds Try.pinned (OpenSpec.upto fnExactEncodedLenSpec)

/-- 'laws.FnLens', WHERE WHAT IT READS IS OF BULK AT MOST 1048576: true; the input reads as it did. -/
def fnLensUptoRow : OpenClaim := { program := "ythljickkppdeoaa", sum := "907cc819be24dbdcdcb1c5f866a46dbab0b433ff275e966481b091a86936e1cd", func := "loop.example/lib-hexvarint/laws.FnLens", spec := "fnLens", apart := false, narrowed := true }
def FnLensUptoSaid : Prop := fnLensUptoRow.holds Try.pinned (OpenSpec.upto fnLensSpec)

/-- 'laws.FnEncodeDigits', WHERE WHAT IT READS IS OF BULK AT MOST 1048576: true; the input reads as it did. -/
def fnEncodeDigitsUptoRow : OpenClaim := { program := "ythljickkppdeoaa", sum := "907cc819be24dbdcdcb1c5f866a46dbab0b433ff275e966481b091a86936e1cd", func := "loop.example/lib-hexvarint/laws.FnEncodeDigits", spec := "fnEncodeDigits", apart := false, narrowed := true }
def FnEncodeDigitsUptoSaid : Prop := fnEncodeDigitsUptoRow.holds Try.pinned (OpenSpec.upto fnEncodeDigitsSpec)

/-- 'laws.FnEncodeJoin', WHERE WHAT IT READS IS OF BULK AT MOST 1048576: true; the input reads as it did. -/
def fnEncodeJoinUptoRow : OpenClaim := { program := "ythljickkppdeoaa", sum := "907cc819be24dbdcdcb1c5f866a46dbab0b433ff275e966481b091a86936e1cd", func := "loop.example/lib-hexvarint/laws.FnEncodeJoin", spec := "fnEncodeJoin", apart := false, narrowed := true }
def FnEncodeJoinUptoSaid : Prop := fnEncodeJoinUptoRow.holds Try.pinned (OpenSpec.upto fnEncodeJoinSpec)

/-- 'laws.FnEncodeOne', WHERE WHAT IT READS IS OF BULK AT MOST 1048576: true; the input reads as it did. -/
def fnEncodeOneUptoRow : OpenClaim := { program := "ythljickkppdeoaa", sum := "907cc819be24dbdcdcb1c5f866a46dbab0b433ff275e966481b091a86936e1cd", func := "loop.example/lib-hexvarint/laws.FnEncodeOne", spec := "fnEncodeOne", apart := false, narrowed := true }
def FnEncodeOneUptoSaid : Prop := fnEncodeOneUptoRow.holds Try.pinned (OpenSpec.upto fnEncodeOneSpec)

/-- 'laws.FnEncodeOrder', WHERE WHAT IT READS IS OF BULK AT MOST 1048576: true; the input reads as it did. -/
def fnEncodeOrderUptoRow : OpenClaim := { program := "ythljickkppdeoaa", sum := "907cc819be24dbdcdcb1c5f866a46dbab0b433ff275e966481b091a86936e1cd", func := "loop.example/lib-hexvarint/laws.FnEncodeOrder", spec := "fnEncodeOrder", apart := false, narrowed := true }
def FnEncodeOrderUptoSaid : Prop := fnEncodeOrderUptoRow.holds Try.pinned (OpenSpec.upto fnEncodeOrderSpec)

/-- 'laws.FnEncodeOrderAll', WHERE WHAT IT READS IS OF BULK AT MOST 1048576: true; the input reads as it did. -/
def fnEncodeOrderAllUptoRow : OpenClaim := { program := "ythljickkppdeoaa", sum := "907cc819be24dbdcdcb1c5f866a46dbab0b433ff275e966481b091a86936e1cd", func := "loop.example/lib-hexvarint/laws.FnEncodeOrderAll", spec := "fnEncodeOrderAll", apart := false, narrowed := true }
def FnEncodeOrderAllUptoSaid : Prop := fnEncodeOrderAllUptoRow.holds Try.pinned (OpenSpec.upto fnEncodeOrderAllSpec)

/-- 'laws.FnEncodeTurned', WHERE WHAT IT READS IS OF BULK AT MOST 1048576: true; the input reads as it did. -/
def fnEncodeTurnedUptoRow : OpenClaim := { program := "ythljickkppdeoaa", sum := "907cc819be24dbdcdcb1c5f866a46dbab0b433ff275e966481b091a86936e1cd", func := "loop.example/lib-hexvarint/laws.FnEncodeTurned", spec := "fnEncodeTurned", apart := false, narrowed := true }
def FnEncodeTurnedUptoSaid : Prop := fnEncodeTurnedUptoRow.holds Try.pinned (OpenSpec.upto fnEncodeTurnedSpec)

/-- 'laws.FnExactEncodeToString', WHERE WHAT IT READS IS OF BULK AT MOST 1048576: true; the input reads as it did. -/
def fnExactEncodeToStringUptoRow : OpenClaim := { program := "ythljickkppdeoaa", sum := "907cc819be24dbdcdcb1c5f866a46dbab0b433ff275e966481b091a86936e1cd", func := "loop.example/lib-hexvarint/laws.FnExactEncodeToString", spec := "fnExactEncodeToString", apart := false, narrowed := true }
def FnExactEncodeToStringUptoSaid : Prop := fnExactEncodeToStringUptoRow.holds Try.pinned (OpenSpec.upto fnExactEncodeToStringSpec)

/-- 'laws.FnEncodeLen', WHERE WHAT IT READS IS OF BULK AT MOST 1048576: true; the input reads as it did. -/
def fnEncodeLenUptoRow : OpenClaim := { program := "ythljickkppdeoaa", sum := "907cc819be24dbdcdcb1c5f866a46dbab0b433ff275e966481b091a86936e1cd", func := "loop.example/lib-hexvarint/laws.FnEncodeLen", spec := "fnEncodeLen", apart := false, narrowed := true }
def FnEncodeLenUptoSaid : Prop := fnEncodeLenUptoRow.holds Try.pinned (OpenSpec.upto fnEncodeLenSpec)

end Rows
end Go.Proofs.Ythljickkppdeoaa
