/-
  NARROWER THAN 'FOR EVERY INPUT', by the rows' own cells (each row's printed sentence says how): FnReadsBegin: laid · FnReadsEnd: laid · FnReadsPieces: laid · FnReadsSome: laid.
  DERIVED. THE GIVEN ROWS OF THIS SEAT. 4 by the template 'for every input the law returns true; each argument reads behind the call as it read before'; 0 by the template 'total and deterministic' (their statements: YthldocgabpbgmaaDoorTotals.lean).
  GIVEN WITH THE SEED: the statements are not yours to turn. If you find one false, say at which input.
  Laid BY PROGRAM, IN A SANDBOX (cutbox-rows.mjs): the forced cells as the released guide's own fill.sh prints them over the translation d3b0aeb9a709fc62… (all of the seat's roots in one cut). By AI agents, Wed Nov 11 2026. No macro, syntax, notation, axiom, sorry.
-/
import Derived.Test.YthldocgabpbgmaaDoorChecked
import GoSem.Claim
import GoSem.ClaimJoined
import GoSem.ClaimMapViews
import Derived.JoinedTies
import Derived.KernelRfl
namespace Go.Proofs.YthldocgabpbgmaaDoor
/- THE CELL 'sum', in the pinned program and in every row, IS THE sha256 OF THE DUMP (.gsa) THAT YthldocgabpbgmaaDoorProg.lean LOADS. Nothing in Lean hashes anything: it is a label: what it is worth is what the hold of that sum in a sandbox is worth. -/
noncomputable def Tryd.pinned : Pinned := { name := "ythldocgabpbgmaadoor", sum := "d3b0aeb9a709fc62c7fb20db8aebd2eadf0dd69cffaddb097ee840c5da032852", checked := Tryd.checked }
namespace Rows
def none {H : Type} : Left H := { results := [], args := [] }

/- WHAT THE LISTED PACKAGE-LEVEL VARIABLES READ AS WHEN THE CALL BEGINS. Each datum BY PROGRAM (the guide's laid-datum.mjs) off the statement by which the dump's own 'gosem.cut.vars' lays the variable. In a bare row this is a premise. The card (YthldocgabpbgmaaDoorCards.lean) ties it to the program's text. -/
def laid_io_EOF {H : Type} : DataW H := .iface "*errors.errorString" (.ptr (.agg [.lit (.string [69, 79, 70])]))
def laid_io_ErrUnexpectedEOF {H : Type} : DataW H := .iface "*errors.errorString" (.ptr (.agg [.lit (.string [117, 110, 101, 120, 112, 101, 99, 116, 101, 100, 32, 69, 79, 70])]))

/-- 'laws.FnReadsBegin': WHATEVER THE INPUT: true; the input reads as it did. -/
def fnReadsBeginSpec : ChangeSpec := { name := "fnReadsBegin", fn := fun _ => fun
  | [d1, d2, d3] => { results := [.lit (.bool true)], args := [d1, d2, d3] }
  | _ => none }
def fnReadsBeginRow : OpenClaim := { program := "ythldocgabpbgmaadoor", sum := "d3b0aeb9a709fc62c7fb20db8aebd2eadf0dd69cffaddb097ee840c5da032852", func := "loop.example/lib-hexvarint/laws.FnReadsBegin", spec := "fnReadsBegin", unfollowed := true, recurses := true, named := ["io.EOF", "io.ErrUnexpectedEOF"], apart := false, laid := [("io.EOF", laid_io_EOF), ("io.ErrUnexpectedEOF", laid_io_ErrUnexpectedEOF)] }
def FnReadsBeginSaid : Prop := fnReadsBeginRow.holds Tryd.pinned (OpenSpec.ofChange fnReadsBeginSpec)

/-- ITS FALSE NEIGHBOUR: 'it returns false'. Refute it at one input. -/
def fnReadsBeginWrong : ChangeSpec := { name := "fnReadsBegin", fn := fun _ => fun
  | [d1, d2, d3] => { results := [.lit (.bool false)], args := [d1, d2, d3] }
  | _ => none }
def FnReadsBeginWrongFalsely : Prop := fnReadsBeginRow.holds Tryd.pinned (OpenSpec.ofChange fnReadsBeginWrong)

/-- 'laws.FnReadsEnd': WHATEVER THE INPUT: true; the input reads as it did. -/
def fnReadsEndSpec : ChangeSpec := { name := "fnReadsEnd", fn := fun _ => fun
  | [d1, d2, d3] => { results := [.lit (.bool true)], args := [d1, d2, d3] }
  | _ => none }
def fnReadsEndRow : OpenClaim := { program := "ythldocgabpbgmaadoor", sum := "d3b0aeb9a709fc62c7fb20db8aebd2eadf0dd69cffaddb097ee840c5da032852", func := "loop.example/lib-hexvarint/laws.FnReadsEnd", spec := "fnReadsEnd", unfollowed := true, recurses := true, named := ["io.EOF", "io.ErrUnexpectedEOF"], apart := false, laid := [("io.EOF", laid_io_EOF), ("io.ErrUnexpectedEOF", laid_io_ErrUnexpectedEOF)] }
def FnReadsEndSaid : Prop := fnReadsEndRow.holds Tryd.pinned (OpenSpec.ofChange fnReadsEndSpec)

/-- ITS FALSE NEIGHBOUR: 'it returns false'. Refute it at one input. -/
def fnReadsEndWrong : ChangeSpec := { name := "fnReadsEnd", fn := fun _ => fun
  | [d1, d2, d3] => { results := [.lit (.bool false)], args := [d1, d2, d3] }
  | _ => none }
def FnReadsEndWrongFalsely : Prop := fnReadsEndRow.holds Tryd.pinned (OpenSpec.ofChange fnReadsEndWrong)

/-- 'laws.FnReadsPieces': WHATEVER THE INPUT: true; the input reads as it did. -/
def fnReadsPiecesSpec : ChangeSpec := { name := "fnReadsPieces", fn := fun _ => fun
  | [d1, d2, d3, d4, d5] => { results := [.lit (.bool true)], args := [d1, d2, d3, d4, d5] }
  | _ => none }
def fnReadsPiecesRow : OpenClaim := { program := "ythldocgabpbgmaadoor", sum := "d3b0aeb9a709fc62c7fb20db8aebd2eadf0dd69cffaddb097ee840c5da032852", func := "loop.example/lib-hexvarint/laws.FnReadsPieces", spec := "fnReadsPieces", unfollowed := true, recurses := true, named := ["io.EOF", "io.ErrUnexpectedEOF"], apart := false, laid := [("io.EOF", laid_io_EOF), ("io.ErrUnexpectedEOF", laid_io_ErrUnexpectedEOF)] }
def FnReadsPiecesSaid : Prop := fnReadsPiecesRow.holds Tryd.pinned (OpenSpec.ofChange fnReadsPiecesSpec)

/-- ITS FALSE NEIGHBOUR: 'it returns false'. Refute it at one input. -/
def fnReadsPiecesWrong : ChangeSpec := { name := "fnReadsPieces", fn := fun _ => fun
  | [d1, d2, d3, d4, d5] => { results := [.lit (.bool false)], args := [d1, d2, d3, d4, d5] }
  | _ => none }
def FnReadsPiecesWrongFalsely : Prop := fnReadsPiecesRow.holds Tryd.pinned (OpenSpec.ofChange fnReadsPiecesWrong)

/-- 'laws.FnReadsSome': WHATEVER THE INPUT: true; the input reads as it did. -/
def fnReadsSomeSpec : ChangeSpec := { name := "fnReadsSome", fn := fun _ => fun
  | [d1, d2, d3] => { results := [.lit (.bool true)], args := [d1, d2, d3] }
  | _ => none }
def fnReadsSomeRow : OpenClaim := { program := "ythldocgabpbgmaadoor", sum := "d3b0aeb9a709fc62c7fb20db8aebd2eadf0dd69cffaddb097ee840c5da032852", func := "loop.example/lib-hexvarint/laws.FnReadsSome", spec := "fnReadsSome", unfollowed := true, recurses := true, named := ["io.EOF", "io.ErrUnexpectedEOF"], apart := false, laid := [("io.EOF", laid_io_EOF), ("io.ErrUnexpectedEOF", laid_io_ErrUnexpectedEOF)] }
def FnReadsSomeSaid : Prop := fnReadsSomeRow.holds Tryd.pinned (OpenSpec.ofChange fnReadsSomeSpec)

/-- ITS FALSE NEIGHBOUR: 'it returns false'. Refute it at one input. -/
def fnReadsSomeWrong : ChangeSpec := { name := "fnReadsSome", fn := fun _ => fun
  | [d1, d2, d3] => { results := [.lit (.bool false)], args := [d1, d2, d3] }
  | _ => none }
def FnReadsSomeWrongFalsely : Prop := fnReadsSomeRow.holds Tryd.pinned (OpenSpec.ofChange fnReadsSomeWrong)

/- THE SECOND FORM. 'bulk': how many values and letters a reading holds, each counted each time it is reached (what is shared counts as often as it is met; a slice's spare places count too). A statement '..UptoSaid' is the law's where the arguments, and the package variables that the reading takes, are together of bulk at most 1048576: NARROWER than '..Said'. Prove '..Said' where nothing that the law and all that it calls make is longer than what came in: it says more and counts as full. Else prove '..UptoSaid'. A law counts once. -/
mutual
def uptoBulk {H : Type} : DataW H → Nat
  | .lit (.string bytes) => bytes.length + 1
  | .lit _ => 1
  | .nil => 1
  | .ptr d => uptoBulk d + 1
  | .slice elems spare => uptoBulkAll elems + uptoBulkAll spare + 1
  | .agg parts => uptoBulkAll parts + 1
  | .iface _ d => uptoBulk d + 1
  | .map entries => uptoBulkEntries entries + 1
  | .held _ => 1
def uptoBulkAll {H : Type} : List (DataW H) → Nat
  | [] => 0
  | d :: r => uptoBulk d + uptoBulkAll r
def uptoBulkEntries {H : Type} : List (Lit × DataW H) → Nat
  | [] => 0
  | x :: r => uptoBulkEntry x + uptoBulkEntries r
def uptoBulkEntry {H : Type} : Lit × DataW H → Nat
  | (.string bytes, d) => bytes.length + uptoBulk d + 1
  | (_, d) => uptoBulk d + 1
 end
def uptoSmall : (H : Type) → List (DataW H) → Bool := fun _ ds => decide (uptoBulkAll ds ≤ 1048576)
def OpenSpec.upto (s : _root_.Go.ChangeSpec) : _root_.Go.OpenSpec := { _root_.Go.OpenSpec.ofChange s with cond := some uptoSmall }

/-- 'laws.FnReadsBegin', WHERE WHAT IT READS IS OF BULK AT MOST 1048576: true; the input reads as it did. -/
def fnReadsBeginUptoRow : OpenClaim := { program := "ythldocgabpbgmaadoor", sum := "d3b0aeb9a709fc62c7fb20db8aebd2eadf0dd69cffaddb097ee840c5da032852", func := "loop.example/lib-hexvarint/laws.FnReadsBegin", spec := "fnReadsBegin", unfollowed := true, recurses := true, named := ["io.EOF", "io.ErrUnexpectedEOF"], apart := false, laid := [("io.EOF", laid_io_EOF), ("io.ErrUnexpectedEOF", laid_io_ErrUnexpectedEOF)], narrowed := true }
def FnReadsBeginUptoSaid : Prop := fnReadsBeginUptoRow.holds Tryd.pinned (OpenSpec.upto fnReadsBeginSpec)

/-- 'laws.FnReadsEnd', WHERE WHAT IT READS IS OF BULK AT MOST 1048576: true; the input reads as it did. -/
def fnReadsEndUptoRow : OpenClaim := { program := "ythldocgabpbgmaadoor", sum := "d3b0aeb9a709fc62c7fb20db8aebd2eadf0dd69cffaddb097ee840c5da032852", func := "loop.example/lib-hexvarint/laws.FnReadsEnd", spec := "fnReadsEnd", unfollowed := true, recurses := true, named := ["io.EOF", "io.ErrUnexpectedEOF"], apart := false, laid := [("io.EOF", laid_io_EOF), ("io.ErrUnexpectedEOF", laid_io_ErrUnexpectedEOF)], narrowed := true }
def FnReadsEndUptoSaid : Prop := fnReadsEndUptoRow.holds Tryd.pinned (OpenSpec.upto fnReadsEndSpec)

/-- 'laws.FnReadsPieces', WHERE WHAT IT READS IS OF BULK AT MOST 1048576: true; the input reads as it did. -/
def fnReadsPiecesUptoRow : OpenClaim := { program := "ythldocgabpbgmaadoor", sum := "d3b0aeb9a709fc62c7fb20db8aebd2eadf0dd69cffaddb097ee840c5da032852", func := "loop.example/lib-hexvarint/laws.FnReadsPieces", spec := "fnReadsPieces", unfollowed := true, recurses := true, named := ["io.EOF", "io.ErrUnexpectedEOF"], apart := false, laid := [("io.EOF", laid_io_EOF), ("io.ErrUnexpectedEOF", laid_io_ErrUnexpectedEOF)], narrowed := true }
def FnReadsPiecesUptoSaid : Prop := fnReadsPiecesUptoRow.holds Tryd.pinned (OpenSpec.upto fnReadsPiecesSpec)

/-- 'laws.FnReadsSome', WHERE WHAT IT READS IS OF BULK AT MOST 1048576: true; the input reads as it did. -/
def fnReadsSomeUptoRow : OpenClaim := { program := "ythldocgabpbgmaadoor", sum := "d3b0aeb9a709fc62c7fb20db8aebd2eadf0dd69cffaddb097ee840c5da032852", func := "loop.example/lib-hexvarint/laws.FnReadsSome", spec := "fnReadsSome", unfollowed := true, recurses := true, named := ["io.EOF", "io.ErrUnexpectedEOF"], apart := false, laid := [("io.EOF", laid_io_EOF), ("io.ErrUnexpectedEOF", laid_io_ErrUnexpectedEOF)], narrowed := true }
def FnReadsSomeUptoSaid : Prop := fnReadsSomeUptoRow.holds Tryd.pinned (OpenSpec.upto fnReadsSomeSpec)

end Rows
end Go.Proofs.YthldocgabpbgmaaDoor
