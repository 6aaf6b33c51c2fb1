/-
  Bytes made and read as text.
-/
import Derived.Test.YthldocgabpbgmaaDoorCommon
namespace Go.Proofs.YthldocgabpbgmaaDoor
open Go.RowKit Go.Lib
set_option linter.unusedVariables false

theorem infoU8 : (Tryd.prog.info? 5).map (fun i => (i.zero, i.size, i.bytes)) = some (some (Value.int IntKind.u8 0), 1, 1) := by kernel_rfl

/-- 'string(b)': the bytes of b. -/
theorem conv {w : World} {A : Option Addr} {n : Nat} {l : List UInt8} (h : RB w A n l) (c : Nat) : (convert 22 9 (.slice A n c)).run Tryd.prog w = .ok (.string ⟨l.toArray⟩) w := by
  obtain ⟨rfl, h2⟩ := h
  by_cases hn : 0 < l.length
  · obtain ⟨b, o, rfl, _, hc⟩ := h2 hn
    refine run_convert_bytes_back w _ _ 5 _ c l Tryd.underlying22 Tryd.underlying5 Tryd.underlying9 (fun j hj => ?_)
    have e2 : (⟨b, o, none⟩ : Addr).add j = ⟨b, o + j, none⟩ := by
      unfold Addr.add
      split
      · rename_i h0; subst h0; simp
      · rfl
    rw [e2]
    exact hc j _ (List.getElem?_eq_getElem hj)
  · have e : l = [] := List.eq_nil_of_length_eq_zero (by omega)
    subst e
    cases A with
    | none => exact run_convert_bytes_nil (P := Tryd.prog) w 22 5 Tryd.underlying22 Tryd.underlying5 0 c 9 Tryd.underlying9
    | some a => exact run_convert_bytes_back w _ _ 5 a c [] Tryd.underlying22 Tryd.underlying5 Tryd.underlying9 (fun j hj => absurd hj (by simp))

end Go.Proofs.YthldocgabpbgmaaDoor
