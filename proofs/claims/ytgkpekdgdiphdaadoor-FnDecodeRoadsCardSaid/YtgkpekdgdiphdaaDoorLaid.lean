/-
  What the row's list gives of encoding/hex.ErrLength: its cell holds a pointer to an errors.errorString with the listed text; and the start that the witness takes (the heap that the program's own initialisers leave).
-/
import Derived.Test.YtgkpekdgdiphdaaDoorCommon
import Derived.Test.YtgkpekdgdiphdaaDoorCards
import Derived.Test.YtgkpekdgdiphdaaDoorTie
import Derived.Deep.DeepHandedRow
import Derived.Deep.DeepWitnessRowRef
import Derived.LaidMore
import Derived.LaidLaws
import Derived.Stop.LaidErr
import Derived.MakeChecks
namespace Go.Proofs.YtgkpekdgdiphdaaDoor
open Go.RowKit
set_option linter.unusedVariables false

theorem gErr : Tryd.prog.globalNamed "encoding/hex.ErrLength" = some 0 := by kernel_rfl
theorem gErrType : (Tryd.prog.globals[0]?).map (·.type) = some 38 := by kernel_rfl
theorem cellsErrS : Tryd.prog.cellsOf 73 = 1 := by kernel_rfl
theorem cellsStr : Tryd.prog.cellsOf 9 = 1 := by kernel_rfl
theorem star : "*" ++ "errors.errorString" = "*errors.errorString" := by decide
theorem rowErrS (u : TypeId) (h : Tryd.prog.typeName? 3 u = some "*errors.errorString") : u = 53 :=
  typeName_ptr_named (nm := "errors.errorString") (by rw [star]; kernel_rfl) (by kernel_rfl) (by decide) u (by rw [star]; exact h)

/-- The bytes of the listed text. -/
def errText : List UInt8 := [101, 110, 99, 111, 100, 105, 110, 103, 47, 104, 101, 120, 58, 32, 111, 100, 100, 32, 108, 101, 110, 103, 116, 104, 32, 104, 101, 120, 32, 115, 116, 114, 105, 110, 103]

/-- What the variable holds: a pointer to the text. -/
def ErrAt (w : World) (a : Addr) : Prop := w.cell? ⟨0, 0, none⟩ = some (.iface 53 (.pointer (some a))) ∧ ∃ s : ByteArray, w.cell? a = some (.string s) ∧ s.data.toList = errText
def ErrIs (w : World) : Prop := ∃ a, ErrAt w a

theorem ErrAt.below {w w' : World} {a : Addr} (h : ErrAt w a) (hb : Below w.heap.size w w') : ErrAt w' a := by
  obtain ⟨h1, s, h2, h3⟩ := h
  exact ⟨(hb.cell (World.block_lt_of_cell? w _ h1)).trans h1, s, (hb.cell (World.block_lt_of_cell? w _ h2)).trans h2, h3⟩

theorem errIs_of {W : World} (h : laidMetH Tryd.prog [("encoding/hex.ErrLength", Rows.laid_encoding_hex_ErrLength)] W) : ErrIs W := by
  rw [MakeChecks.laidMetH_plain _ _ _ (by kernel_rfl)] at h
  obtain ⟨a, s, hv, hc, hs, _⟩ := laid_sentinel h gErr gErrType Tryd.underlying38 rowErrS Tryd.underlying53 Tryd.underlying73 rfl rfl Tryd.underlying9 cellsErrS cellsStr
  refine ⟨a, ?_, s, hc, hs⟩
  have := World.var?_cell gErr hv 0
  simpa using this

theorem door_met (os : Os) (args : Array Value) : laidMet Tryd.prog [("encoding/hex.ErrLength", Rows.laid_encoding_hex_ErrLength)] ((World.doorLaid Tryd.prog 400 os).forCall (fun _ _ => 0) ⟨#[], args, []⟩).memory :=
  laidMet_of_run' 8 (by kernel_rfl) (by kernel_rfl)

end Go.Proofs.YtgkpekdgdiphdaaDoor
