/-
  An owned row of bytes as a row by the index and back; contract: bytes.Clone.
-/
import Derived.Test.YtgkpekdgdiphdaaDoorAppend
namespace Go.Proofs.YtgkpekdgdiphdaaDoor
open Go.RowKit Go.Lib
set_option linter.unusedVariables false

set_option maxHeartbeats 1000000 in
/-- bytes.Clone: a row of its own. -/
theorem bytesClone (A : Option Addr) (n c : Nat) (l : List UInt8) (w : World) (h : RB w A n l) (hbig : n ≤ 211106232532992) :
    Calls Tryd.prog 18 #[.slice A n c] w fun e w' => ∃ A' c', e = .returned (.slice A' n c') ∧ OB w' w.heap.size A' n c' l ∧ Below w.heap.size w w' := by
  have HB := Lib.hid h
  clear h
  have hnil := fun W a => Lib.run_eql_slice_nil (P := Tryd.prog) W 22 5 a n c 0 0 Tryd.underlying22
  cases A with
  | none =>
    have hn0 := fun W => hnil W none
    clear hnil
    simp only [Option.isNone_none] at hn0
    obtain ⟨rfl, rfl⟩ : n = 0 ∧ l = [] := by
      have h0 : n = 0 := by
        rcases Nat.eq_zero_or_pos n with h0 | h0
        · exact h0
        · obtain ⟨b, o, e, _⟩ := HB.out.2 h0; cases e
      exact ⟨h0, List.eq_nil_of_length_eq_zero (by rw [HB.out.1, h0])⟩
    go_enter Tryd.func18, Tryd.ntmps18
    go_wp2
    go_ret
    exact ⟨none, 0, rfl, OB.nil_ _ _, Below.refl _ _⟩
  | some a =>
    have hn0 := fun W => hnil W (some a)
    clear hnil
    simp only [Option.isNone_some] at hn0
    have hB1 := Lib.hid ((Below.refl _ w).alloc (Nat.le_refl _) (.cells #[] 5))
    have HO0 : Hid (OB (w.alloc (.cells #[] 5)) w.heap.size (some ⟨w.heap.size, 0, none⟩) 0 0 []) := by
      have := OB.made w w.heap.size (Nat.le_refl _) #[] (by simp)
      simpa [Hid] using this
    go_enter Tryd.func18, Tryd.ntmps18
    go_wp2_with (at_builtin; refine wpList_appB rfl (.tmp 5) (.tmp 6) rfl w.heap.size 0 0 (some ⟨w.heap.size, 0, none⟩) [] rfl (by exact HO0.out) (some a) n c l rfl (by exact HB.out.alloc _) (by omega) (by exact hB1.out.size) ?_; intro A2 c2 w4 hown1 hg1 hat1; refine Hid.out ?_)
    refine Lib.hid ?_
    have hb4 : Hid (Below w.heap.size w w4) := HO0.out.grows hB1.out hg1 (Nat.le_refl _) hB1.out.size
    simp only [Nat.zero_add, List.nil_append] at hown1 ⊢
    have HO1 := Lib.hid hown1
    clear hown1 hg1 hat1
    go_wp2_with fail
    go_ret
    exact ⟨A2, c2, rfl, HO1.out, hb4.out⟩

end Go.Proofs.YtgkpekdgdiphdaaDoor
