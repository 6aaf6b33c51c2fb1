/-
  For a region that draws its order and holds calls: what stays below, in whatever order it came about.
-/
import Derived.Test.YtejeoglpcbeaeaaFmtDigit
namespace Go.Proofs.YtejeoglpcbeaeaaFmt
open Go.RowKit Go.Lib
set_option linter.unusedVariables false

theorem below_up {w W : World} {o : Obj} (h : Below w.heap.size w W) : Below w.heap.size w (W.alloc o) := h.alloc h.size o
theorem below_on {w W w2 : World} (h : Below w.heap.size w W) (hb : Below W.heap.size W w2) : Below w.heap.size w w2 := h.trans (hb.mono h.size)
theorem bcell {W w1 : World} (hb : Below W.heap.size W w1) : (∀ b o, b < W.heap.size → w1.cell? ⟨b, o, none⟩ = W.cell? ⟨b, o, none⟩) ∧ (∀ b o, b < W.heap.size → w1.frozen? ⟨b, o, none⟩ = W.frozen? ⟨b, o, none⟩) :=
  ⟨fun b o h => hb.cell (p := ⟨b, o, none⟩) h, fun b o h => hb.frozen (p := ⟨b, o, none⟩) h⟩

end Go.Proofs.YtejeoglpcbeaeaaFmt
