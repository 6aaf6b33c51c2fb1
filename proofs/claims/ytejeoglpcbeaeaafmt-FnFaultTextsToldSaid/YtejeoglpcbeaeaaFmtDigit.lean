/-
  Contract of the laws' own helper digit.
-/
import Derived.Test.YtejeoglpcbeaeaaFmtDecode
namespace Go.Proofs.YtejeoglpcbeaeaaFmt
open Go.RowKit Go.Lib
set_option linter.unusedVariables false

/-- Is it a digit? -/
def digB (c : UInt8) : Bool := decide (Hx.v c ≤ 15)

theorem digB_true {c : UInt8} (h : Hx.v c ≤ 15) : digB c = true := by unfold digB; simpa using h
theorem digB_false {c : UInt8} (h : 15 < Hx.v c) : digB c = false := by unfold digB; simp; omega
theorem digB_iff (c : UInt8) : digB c = true ↔ Hx.v c ≤ 15 := by unfold digB; simp

set_option maxHeartbeats 1000000 in
theorem digit_num (x : Int) (b : Bool) (h : b = decide ((48 ≤ x ∧ x ≤ 57) ∨ (97 ≤ x ∧ x ≤ 102) ∨ (65 ≤ x ∧ x ≤ 70))) (w : World) :
    Calls Tryf.prog 8 #[.int .u8 x] w fun e w' => e = .returned (.bool b) ∧ w = w' := by
  have cases7 : x < 48 ∨ (48 ≤ x ∧ x ≤ 57) ∨ (57 < x ∧ x < 65) ∨ (65 ≤ x ∧ x ≤ 70) ∨ (70 < x ∧ x < 97) ∨ (97 ≤ x ∧ x ≤ 102) ∨ 102 < x := by omega
  rcases cases7 with h1 | ⟨h1, h2⟩ | ⟨h1, h2⟩ | ⟨h1, h2⟩ | ⟨h1, h2⟩ | ⟨h1, h2⟩ | h1
  all_goals
    cases b
    all_goals
      first
        | (exfalso; simp at h; omega)
        | (clear h
           go_enter Tryf.func8, Tryf.ntmps8
           go_wp2
           go_ret
           refine ⟨ret_bool ?_, rfl⟩
           first | rfl | (simp; omega))

theorem digit_any (c : UInt8) (w : World) : Calls Tryf.prog 8 #[.int .u8 (c.toNat : Int)] w fun e w' => e = .returned (.bool (digB c)) ∧ w = w' := by
  refine digit_num _ _ ?_ w
  unfold digB
  have := Hex.v_le c
  rw [decide_eq_decide, this]
  omega

end Go.Proofs.YtejeoglpcbeaeaaFmt
