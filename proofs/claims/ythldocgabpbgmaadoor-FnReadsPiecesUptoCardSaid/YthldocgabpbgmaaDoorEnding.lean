/-
  Contracts of the thin package's ending and of the laws' positive and first.
-/
import Derived.Test.YthldocgabpbgmaaDoorDecode
import Derived.Test.YthldocgabpbgmaaDoorReadPure
import Derived.LaidEql
namespace Go.Proofs.YthldocgabpbgmaaDoor
open Go.RowKit Go.Lib
set_option linter.unusedVariables false

/-- The error that tells an end. -/
def errV (a b : Addr) : Option Hx.Out → Value
  | none => .nilIface
  | some .ok => .iface 57 (.pointer (some a))
  | some (.bad c) => .iface 55 (.int .u8 (c.toNat : Int))
  | some .odd => .iface 57 (.pointer (some b))

theorem assert_yes (v : Value) (w : World) : (Instr.typeAssert (.iface 55 v) 46 55 true).run Tryd.prog w = .ok (.tuple #[v, .bool true]) w := by kernel_rfl
theorem assert_no (v : Value) (w : World) : (Instr.typeAssert (.iface 57 v) 46 55 true).run Tryd.prog w = .ok (.tuple #[.int .u8 0, .bool false]) w := by kernel_rfl

theorem infoErr : ∃ i j, Tryd.prog.info? 57 = some i ∧ i.comparable = true ∧ Tryd.prog.info? 79 = some j ∧ j.size ≠ 0 := by
  have h1 : (Tryd.prog.info? 57).map (·.comparable) = some true := by kernel_rfl
  have h2 : (Tryd.prog.info? 79).map (·.size) = some 1 := by kernel_rfl
  obtain ⟨i, hi, hc⟩ := Option.map_eq_some_iff.1 h1
  obtain ⟨j, hj, hs⟩ := Option.map_eq_some_iff.1 h2
  exact ⟨i, j, hi, hc, hj, by rw [hs]; decide⟩
theorem eq_same (a : Addr) (w : World) : (binOp .eql 46 (.iface 57 (.pointer (some a))) (.iface 57 (.pointer (some a)))).run Tryd.prog w = .ok (.bool true) w := by
  obtain ⟨i, j, hi, hc, hj, hs⟩ := infoErr
  exact run_eql_iface_ptr_same w a Tryd.underlying46 Tryd.underlying57 hi hc hj
theorem eq_other (a b : Addr) (w : World) (h : a ≠ b) (ha : ∃ c t, w.heap[a.block]? = some (.cells c t (0, 0))) (hb : ∃ c t, w.heap[b.block]? = some (.cells c t (0, 0))) : (binOp .eql 46 (.iface 57 (.pointer (some a))) (.iface 57 (.pointer (some b)))).run Tryd.prog w = .ok (.bool false) w := by
  obtain ⟨i, j, hi, hc, hj, hs⟩ := infoErr
  obtain ⟨ca, ta, ha⟩ := ha
  obtain ⟨cb, tb, hb⟩ := hb
  exact run_eql_iface_ptr_other w Tryd.underlying46 Tryd.underlying57 hi hc hj hs h ha hb

set_option maxHeartbeats 1000000 in
theorem ending_any (a b : Addr) (e : Option Hx.Out) (w : World) (hE : ErrAt w a b) :
    Calls Tryd.prog 16 #[errV a b e] w fun x w' => x = .returned (.int .i64 (Hex.num e)) ∧ w = w' := by
  have h1 := hE.1.1
  have h2 := hE.2.1.1
  have hne := hE.ne
  have hne' : b ≠ a := fun h => hne h.symm
  have hsa := eq_same
  have hso := eq_other b a w hne' hE.2.2.2 hE.2.2.1
  have hty := assert_yes
  have htn := assert_no
  clear hE
  cases e with
  | none =>
    simp only [errV, Hex.num]
    go_enter Tryd.func16, Tryd.ntmps16
    go_wp2
    go_ret
    exact ⟨rfl, rfl⟩
  | some E =>
    cases E with
    | ok =>
      simp only [errV, Hex.num]
      go_enter Tryd.func16, Tryd.ntmps16
      go_wp2
      go_ret
      exact ⟨rfl, rfl⟩
    | bad c =>
      simp only [errV, Hex.num]
      go_enter Tryd.func16, Tryd.ntmps16
      go_wp2
      go_ret
      exact ⟨rfl, rfl⟩
    | odd =>
      simp only [errV, Hex.num]
      go_enter Tryd.func16, Tryd.ntmps16
      go_wp2
      go_ret
      exact ⟨rfl, rfl⟩

end Go.Proofs.YthldocgabpbgmaaDoor
