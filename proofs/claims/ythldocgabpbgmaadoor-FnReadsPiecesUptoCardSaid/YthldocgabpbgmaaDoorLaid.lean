/-
  What the rows' list gives of io.EOF and io.ErrUnexpectedEOF: their cells hold pointers to two errors.errorString with the listed texts; and the start that the witness takes.
-/
import Derived.Test.YthldocgabpbgmaaDoorCommon
import Derived.Test.YthldocgabpbgmaaDoorCards
import Derived.Test.YthldocgabpbgmaaDoorTie
import Derived.Deep.DeepHandedRow
import Derived.Deep.DeepWitnessRowRef
import Derived.LaidMore
import Derived.LaidLaws
import Derived.Stop.LaidErr
import Derived.MakeChecks
namespace Go.Proofs.YthldocgabpbgmaaDoor
open Go.RowKit
set_option linter.unusedVariables false

theorem gEof : Tryd.prog.globalNamed "io.EOF" = some 0 := by kernel_rfl
theorem gEofType : (Tryd.prog.globals[0]?).map (·.type) = some 46 := by kernel_rfl
theorem gUne : Tryd.prog.globalNamed "io.ErrUnexpectedEOF" = some 1 := by kernel_rfl
theorem gUneType : (Tryd.prog.globals[1]?).map (·.type) = some 46 := by kernel_rfl
theorem cellsErrS : Tryd.prog.cellsOf 79 = 1 := by kernel_rfl
theorem cellsStr : Tryd.prog.cellsOf 9 = 1 := by kernel_rfl
theorem star : "*" ++ "errors.errorString" = "*errors.errorString" := by decide
theorem rowErrS (u : TypeId) (h : Tryd.prog.typeName? 3 u = some "*errors.errorString") : u = 57 :=
  typeName_ptr_named (nm := "errors.errorString") (by rw [star]; kernel_rfl) (by kernel_rfl) (by decide) u (by rw [star]; exact h)

/-- The block that a listed error's text lies in is a plain one (the way is laid_sentinel's own). -/
theorem sentinel_block {P : Program} {n nm : String} {text : List UInt8} {r : List (String × DataW Unit)} {W : World} {g : Nat} {ti tp te ts : TypeId} {ms : Array (String × TypeId)} {f : Field}
    (h : laidMet P ((n, .iface nm (.ptr (.agg [.lit (.string text)]))) :: r) W)
    (hg : P.globalNamed n = some g) (ht : (P.globals[g]?).map (·.type) = some ti) (hi : P.underlying ti = some (.interface ms)) (hrow : ∀ u, P.typeName? 3 u = some nm → u = tp)
    (hp : P.underlying tp = some (.pointer te)) (he : P.underlying te = some (.struct #[f])) (hft : f.type = ts) (hfo : f.offset = 0) (hs : P.underlying ts = some .string) (hc : P.cellsOf te = 1) (hcs : P.cellsOf ts = 1) :
    ∃ (a : Addr) (s : ByteArray), W.var? P n = some #[.iface tp (.pointer (some a))] ∧ W.cell? a = some (.string s) ∧ s.data.toList = text ∧ ∃ c t, W.heap[a.block]? = some (.cells c t (0, 0)) := by
  obtain ⟨ps, ⟨g0, t0, cs0, f0, p0, q0, hg0, ht0, hv0, hd0, _, e0⟩, _, hrows⟩ := h
  obtain rfl := Option.some.inj (hg.symm.trans hg0)
  obtain rfl := Option.some.inj (ht.symm.trans ht0)
  subst e0
  obtain ⟨l0⟩ := cs0
  have ok0 : ∀ u v, l0 = [.iface u v] → Value.okWide P W .any 0 u v := fun u v e => by
    subst e
    exact (hrows g 0 (by simp [MemPlace.row])).2 u v (by simpa using World.var?_cell hg0 hv0 0)
  obtain ⟨a0, s0, rfl, hc0, hs0, hz0, rfl⟩ := errorString_of_trod hi hrow hp he hft hfo hs hc hcs hd0 ok0
  refine ⟨a0, s0, hv0, hc0, hs0, (hrows a0.block a0.off ?_).1⟩
  simp [MemPlace.row]

def eofText : List UInt8 := [69, 79, 70]
def uneText : List UInt8 := [117, 110, 101, 120, 112, 101, 99, 116, 101, 100, 32, 69, 79, 70]

/-- What the two variables hold: pointers to the two texts. -/
def ErrAt (w : World) (a b : Addr) : Prop :=
  (w.cell? ⟨0, 0, none⟩ = some (.iface 57 (.pointer (some a))) ∧ ∃ s : ByteArray, w.cell? a = some (.string s) ∧ s.data.toList = eofText) ∧
  (w.cell? ⟨1, 0, none⟩ = some (.iface 57 (.pointer (some b))) ∧ ∃ s : ByteArray, w.cell? b = some (.string s) ∧ s.data.toList = uneText) ∧
  (∃ c t, w.heap[a.block]? = some (.cells c t (0, 0))) ∧ ∃ c t, w.heap[b.block]? = some (.cells c t (0, 0))
def ErrIs (w : World) : Prop := ∃ a b, ErrAt w a b

theorem ErrAt.ne {w : World} {a b : Addr} (h : ErrAt w a b) : a ≠ b := by
  rintro rfl
  obtain ⟨⟨_, s, h1, h2⟩, ⟨_, t, h3, h4⟩, _⟩ := h
  rw [h1] at h3
  injection h3 with h3
  injection h3 with h3
  subst h3
  rw [h2] at h4
  exact absurd h4 (by decide)

theorem ErrAt.below {w w' : World} {a b : Addr} (h : ErrAt w a b) (hb : Below w.heap.size w w') : ErrAt w' a b := by
  obtain ⟨⟨h1, s, h2, h3⟩, ⟨k1, t, k2, k3⟩, ⟨c1, t1, m1⟩, c2, t2, m2⟩ := h
  exact ⟨⟨(hb.cell (World.block_lt_of_cell? w _ h1)).trans h1, s, (hb.cell (World.block_lt_of_cell? w _ h2)).trans h2, h3⟩, ⟨(hb.cell (World.block_lt_of_cell? w _ k1)).trans k1, t, (hb.cell (World.block_lt_of_cell? w _ k2)).trans k2, k3⟩, ⟨c1, t1, (hb.block _ (World.block_lt_of_cell? w _ h2)).trans m1⟩, c2, t2, (hb.block _ (World.block_lt_of_cell? w _ k2)).trans m2⟩

theorem errIs_of {W : World} (h : laidMetH Tryd.prog [("io.EOF", Rows.laid_io_EOF), ("io.ErrUnexpectedEOF", Rows.laid_io_ErrUnexpectedEOF)] W) : ErrIs W := by
  rw [MakeChecks.laidMetH_plain _ _ _ (by kernel_rfl)] at h
  obtain ⟨a, s, hv, hc, hs, hm⟩ := sentinel_block h gEof gEofType Tryd.underlying46 rowErrS Tryd.underlying57 Tryd.underlying79 rfl rfl Tryd.underlying9 cellsErrS cellsStr
  obtain ⟨b, t, kv, kc, ks, km⟩ := sentinel_block h.tail gUne gUneType Tryd.underlying46 rowErrS Tryd.underlying57 Tryd.underlying79 rfl rfl Tryd.underlying9 cellsErrS cellsStr
  refine ⟨a, b, ⟨?_, s, hc, hs⟩, ⟨?_, t, kc, ks⟩, hm, km⟩
  · have := World.var?_cell gEof hv 0
    simpa using this
  · have := World.var?_cell gUne kv 0
    simpa using this

theorem door_met (os : Os) (args : Array Value) : laidMet Tryd.prog [("io.EOF", Rows.laid_io_EOF), ("io.ErrUnexpectedEOF", Rows.laid_io_ErrUnexpectedEOF)] ((World.doorLaid Tryd.prog 400 os).forCall (fun _ _ => 0) ⟨#[], args, []⟩).memory :=
  laidMet_of_run' 8 (by kernel_rfl) (by kernel_rfl)

end Go.Proofs.YthldocgabpbgmaaDoor
