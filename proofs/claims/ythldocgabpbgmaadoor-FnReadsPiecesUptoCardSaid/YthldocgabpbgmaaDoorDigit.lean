/-
  Contract of the laws' own helper same.
-/
import Derived.Test.YthldocgabpbgmaaDoorDecode
namespace Go.Proofs.YthldocgabpbgmaaDoor
open Go.RowKit Go.Lib
set_option linter.unusedVariables false

set_option maxHeartbeats 400000 in
theorem same_any (A : Option Addr) (n c : Nat) (l : List UInt8) (B : Option Addr) (m d : Nat) (k : List UInt8) (w : World) (h : RB w A n l) (h' : RB w B m k) :
    Calls Tryd.prog 12 #[.slice A n c, .slice B m d] w fun e w' => e = .returned (.bool (l == k)) ∧ w = w' := by
  have q := conv h c
  have q' := conv h' d
  clear h h'
  go_enter Tryd.func12, Tryd.ntmps12
  go_wp2
  go_ret
  refine ⟨ret_bool ?_, rfl⟩
  simp

end Go.Proofs.YthldocgabpbgmaaDoor
