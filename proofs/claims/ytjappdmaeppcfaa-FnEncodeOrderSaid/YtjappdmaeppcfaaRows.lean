/-
  No cell of these rows narrows 'for every input' (looked for: loops, veiled, ifaces, maps, wideKeys, modest, calm, conditions, laid).
  DERIVED. THE GIVEN ROWS OF THIS SEAT. 3 by the template 'for every input the law returns true; each argument reads behind the call as it read before'; 0 by the template 'total and deterministic' (their statements: YtjappdmaeppcfaaTotals.lean).
  GIVEN WITH THE SEED: the statements are not yours to turn. If you find one false, say at which input.
  Laid BY PROGRAM, IN A SANDBOX (cutbox-rows.mjs): the forced cells as the released guide's own fill.sh prints them over the translation 00aaaf1730a54773… (all of the seat's roots in one cut). By AI agents, Wed Nov 11 2026. No macro, syntax, notation, axiom, sorry.
-/
import Derived.Test.YtjappdmaeppcfaaChecked
import GoSem.Claim
import GoSem.ClaimJoined
import GoSem.ClaimMapViews
import Derived.JoinedTies
import Derived.KernelRfl
namespace Go.Proofs.Ytjappdmaeppcfaa
/- THE CELL 'sum', in the pinned program and in every row, IS THE sha256 OF THE DUMP (.gsa) THAT YtjappdmaeppcfaaProg.lean LOADS. Nothing in Lean hashes anything: it is a label: what it is worth is what the hold of that sum in a sandbox is worth. -/
noncomputable def Try.pinned : Pinned := { name := "ytjappdmaeppcfaa", sum := "00aaaf1730a547734175e466978bf7ed320f3e9031d029294720407567e36eb7", checked := Try.checked }
namespace Rows
def none {H : Type} : Left H := { results := [], args := [] }

/-- 'laws.FnExactEncodeParts': WHATEVER THE INPUT: true; the input reads as it did. -/
def fnExactEncodePartsSpec : ChangeSpec := { name := "fnExactEncodeParts", fn := fun _ => fun
  | [d] => { results := [.lit (.bool true)], args := [d] }
  | _ => none }
def fnExactEncodePartsRow : OpenClaim := { program := "ytjappdmaeppcfaa", sum := "00aaaf1730a547734175e466978bf7ed320f3e9031d029294720407567e36eb7", func := "loop.example/lib-hexvarint/laws.FnExactEncodeParts", spec := "fnExactEncodeParts", unfollowed := true, recurses := true, apart := false }
def FnExactEncodePartsSaid : Prop := fnExactEncodePartsRow.holds Try.pinned (OpenSpec.ofChange fnExactEncodePartsSpec)

/-- ITS FALSE NEIGHBOUR: 'it returns false'. Refute it at one input. -/
def fnExactEncodePartsWrong : ChangeSpec := { name := "fnExactEncodeParts", fn := fun _ => fun
  | [d] => { results := [.lit (.bool false)], args := [d] }
  | _ => none }
def FnExactEncodePartsWrongFalsely : Prop := fnExactEncodePartsRow.holds Try.pinned (OpenSpec.ofChange fnExactEncodePartsWrong)

/-- 'laws.FnPartsRoads': WHATEVER THE INPUT: true; the input reads as it did. -/
def fnPartsRoadsSpec : ChangeSpec := { name := "fnPartsRoads", fn := fun _ => fun
  | [d] => { results := [.lit (.bool true)], args := [d] }
  | _ => none }
def fnPartsRoadsRow : OpenClaim := { program := "ytjappdmaeppcfaa", sum := "00aaaf1730a547734175e466978bf7ed320f3e9031d029294720407567e36eb7", func := "loop.example/lib-hexvarint/laws.FnPartsRoads", spec := "fnPartsRoads", unfollowed := true, recurses := true, apart := false }
def FnPartsRoadsSaid : Prop := fnPartsRoadsRow.holds Try.pinned (OpenSpec.ofChange fnPartsRoadsSpec)

/-- ITS FALSE NEIGHBOUR: 'it returns false'. Refute it at one input. -/
def fnPartsRoadsWrong : ChangeSpec := { name := "fnPartsRoads", fn := fun _ => fun
  | [d] => { results := [.lit (.bool false)], args := [d] }
  | _ => none }
def FnPartsRoadsWrongFalsely : Prop := fnPartsRoadsRow.holds Try.pinned (OpenSpec.ofChange fnPartsRoadsWrong)

/-- 'laws.FnEncodeOrder': WHATEVER THE INPUT: true; the input reads as it did. -/
def fnEncodeOrderSpec : ChangeSpec := { name := "fnEncodeOrder", fn := fun _ => fun
  | [d] => { results := [.lit (.bool true)], args := [d] }
  | _ => none }
def fnEncodeOrderRow : OpenClaim := { program := "ytjappdmaeppcfaa", sum := "00aaaf1730a547734175e466978bf7ed320f3e9031d029294720407567e36eb7", func := "loop.example/lib-hexvarint/laws.FnEncodeOrder", spec := "fnEncodeOrder", apart := false }
def FnEncodeOrderSaid : Prop := fnEncodeOrderRow.holds Try.pinned (OpenSpec.ofChange fnEncodeOrderSpec)

/-- ITS FALSE NEIGHBOUR: 'it returns false'. Refute it at one input. -/
def fnEncodeOrderWrong : ChangeSpec := { name := "fnEncodeOrder", fn := fun _ => fun
  | [d] => { results := [.lit (.bool false)], args := [d] }
  | _ => none }
def FnEncodeOrderWrongFalsely : Prop := fnEncodeOrderRow.holds Try.pinned (OpenSpec.ofChange fnEncodeOrderWrong)

/- THE SECOND FORM. 'bulk': how many values and letters a reading holds, each counted each time it is reached (what is shared counts as often as it is met; a slice's spare places count too). A statement '..UptoSaid' is the law's where the arguments, and the package variables that the reading takes, are together of bulk at most 1048576: NARROWER than '..Said'. Prove '..Said' where nothing that the law and all that it calls make is longer than what came in: it says more and counts as full. Else prove '..UptoSaid'. A law counts once. -/
mutual
def uptoBulk {H : Type} : DataW H → Nat
  | .lit (.string bytes) => bytes.length + 1
  | .lit _ => 1
  | .nil => 1
  | .ptr d => uptoBulk d + 1
  | .slice elems spare => uptoBulkAll elems + uptoBulkAll spare + 1
  | .agg parts => uptoBulkAll parts + 1
  | .iface _ d => uptoBulk d + 1
  | .map entries => uptoBulkEntries entries + 1
  | .held _ => 1
def uptoBulkAll {H : Type} : List (DataW H) → Nat
  | [] => 0
  | d :: r => uptoBulk d + uptoBulkAll r
def uptoBulkEntries {H : Type} : List (Lit × DataW H) → Nat
  | [] => 0
  | x :: r => uptoBulkEntry x + uptoBulkEntries r
def uptoBulkEntry {H : Type} : Lit × DataW H → Nat
  | (.string bytes, d) => bytes.length + uptoBulk d + 1
  | (_, d) => uptoBulk d + 1
 end
def uptoSmall : (H : Type) → List (DataW H) → Bool := fun _ ds => decide (uptoBulkAll ds ≤ 1048576)
def OpenSpec.upto (s : _root_.Go.ChangeSpec) : _root_.Go.OpenSpec := { _root_.Go.OpenSpec.ofChange s with cond := some uptoSmall }

/-- 'laws.FnExactEncodeParts', WHERE WHAT IT READS IS OF BULK AT MOST 1048576: true; the input reads as it did. -/
def fnExactEncodePartsUptoRow : OpenClaim := { program := "ytjappdmaeppcfaa", sum := "00aaaf1730a547734175e466978bf7ed320f3e9031d029294720407567e36eb7", func := "loop.example/lib-hexvarint/laws.FnExactEncodeParts", spec := "fnExactEncodeParts", unfollowed := true, recurses := true, apart := false, narrowed := true }
def FnExactEncodePartsUptoSaid : Prop := fnExactEncodePartsUptoRow.holds Try.pinned (OpenSpec.upto fnExactEncodePartsSpec)

/-- 'laws.FnPartsRoads', WHERE WHAT IT READS IS OF BULK AT MOST 1048576: true; the input reads as it did. -/
def fnPartsRoadsUptoRow : OpenClaim := { program := "ytjappdmaeppcfaa", sum := "00aaaf1730a547734175e466978bf7ed320f3e9031d029294720407567e36eb7", func := "loop.example/lib-hexvarint/laws.FnPartsRoads", spec := "fnPartsRoads", unfollowed := true, recurses := true, apart := false, narrowed := true }
def FnPartsRoadsUptoSaid : Prop := fnPartsRoadsUptoRow.holds Try.pinned (OpenSpec.upto fnPartsRoadsSpec)

/-- 'laws.FnEncodeOrder', WHERE WHAT IT READS IS OF BULK AT MOST 1048576: true; the input reads as it did. -/
def fnEncodeOrderUptoRow : OpenClaim := { program := "ytjappdmaeppcfaa", sum := "00aaaf1730a547734175e466978bf7ed320f3e9031d029294720407567e36eb7", func := "loop.example/lib-hexvarint/laws.FnEncodeOrder", spec := "fnEncodeOrder", apart := false, narrowed := true }
def FnEncodeOrderUptoSaid : Prop := fnEncodeOrderUptoRow.holds Try.pinned (OpenSpec.upto fnEncodeOrderSpec)

end Rows
end Go.Proofs.Ytjappdmaeppcfaa
