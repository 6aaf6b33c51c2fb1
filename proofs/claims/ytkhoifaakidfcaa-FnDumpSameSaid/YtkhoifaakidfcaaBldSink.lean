/-
  A strings.Builder that the call has made, behind 'Grow', is a sink: contracts of its copyCheck and Write.
-/
import Derived.Test.YtkhoifaakidfcaaSink
import Derived.Test.YtkhoifaakidfcaaBld
import Derived.Lib.OthersKept
namespace Go.Proofs.Ytkhoifaakidfcaa
open Go.RowKit Go.Lib
set_option linter.unusedVariables false

def BldS (b B : Nat) (l : List UInt8) (w : World) : Prop := Lib.BuilderAt 57 5 B b (.pointer (some ⟨b, 0, none⟩)) (Lib.byteCells l) w

set_option maxHeartbeats 400000 in
theorem copyCheck (b : Nat) (w : World) (h0 : w.cell? ⟨b, 0, none⟩ = some (.pointer (some ⟨b, 0, none⟩))) :
    Calls Try.prog 34 #[.pointer (some ⟨b, 0, none⟩)] w fun e w' => e = .returned (.tuple #[]) ∧ w = w' := by
  obtain ⟨j, hj, _⟩ := Option.map_eq_some_iff.1 Try.Builder_Extra_169.sizeBuilder
  go_enter Try.func34, Try.ntmps34
  go_wp2
  rw [Lib.run_neq_ptr_same w _ Try.underlying55 hj]
  go_wp2
  go_end0
  exact ⟨rfl, rfl⟩

theorem BldS.parts {b B : Nat} {l : List UInt8} {w : World} (h : BldS b B l w) : B ≤ b ∧ ∃ A c, w.heap[b]? = some (.cells #[.pointer (some ⟨b, 0, none⟩), .slice A l.length c] 57 (0, 0)) ∧ OB w B A l.length c l ∧ A.map (·.block) ≠ some b := by
  obtain ⟨hB, v, hbk, hown, hne⟩ := h
  rw [Lib.byteCells_length] at hown
  rcases id hown.2 with ⟨rfl, h0⟩ | ⟨g, cap, cur, rfl, hg, hh, hnc, hm, hs, ht⟩
  · refine ⟨hB, none, 0, ?_, ⟨rfl, ?_⟩, by simp⟩
    · rw [h0]; exact hbk
    · rw [h0] at hown ⊢; exact hown
  · exact ⟨hB, some ⟨g, 0, none⟩, cap, hbk, ⟨rfl, hown⟩, by simpa [Value.ownBlock] using hne⟩

set_option maxHeartbeats 1000000 in
theorem bldWrite (b B : Nat) (l news : List UInt8) (X : Option Addr) (n c : Nat) (w : World) (h : BldS b B l w) (hw : B ≤ w.heap.size) (hr : RB w X n news) (hl : l.length + n ≤ 140737488355328) :
    Calls Try.prog 62 #[.pointer (some ⟨b, 0, none⟩), .slice X n c] w fun e w' => e = .returned (.tuple #[.int .i64 n, .nilIface]) ∧ BldS b B (l ++ news) w' ∧ Below B w w' ∧ Lib.OthersKept 5 (some b) w w' := by
  obtain ⟨hB, A, d, hbk, hO, hne⟩ := h.parts
  have c0 : w.cell? ⟨b, 0, none⟩ = some (.pointer (some ⟨b, 0, none⟩)) := by rw [Lib.cell_of_heap hbk]; rfl
  have c1 : w.cell? ⟨b, 1, none⟩ = some (.slice A l.length d) := by rw [Lib.cell_of_heap hbk]; rfl
  have HO := Lib.hid hO
  have HBk := Lib.hid hbk
  have HR := Lib.hid hr
  have HN := Lib.hid hne
  have HL : Hid (news.length = n) := hr.1
  have hcap := hO.le
  obtain ⟨m, hm⟩ : ∃ m, l.length = m := ⟨_, rfl⟩
  have HM := Lib.hid hm
  rw [hm] at c1 HO HBk hl hcap
  clear hO hbk hr hne h hm
  simp only [maxLen] at hcap
  go_enter Try.func62, Try.ntmps62
  go_wp2_with fail
  refine (copyCheck b w c0).mono ?_
  rintro e w' ⟨rfl, rfl⟩
  go_wp2_with (at_builtin; refine wpList_appB rfl (.tmp 12) (.tmp 13) rfl B m d A l rfl HO.out X n c news rfl HR.out hl hw ?_; intro A2 d2 w1 hown1 hg1 hat1; have hk1 : w1.heap[b]? = some (.cells #[.pointer (some ⟨b, 0, none⟩), .slice A m d] 57 (0, 0)) := (hg1.block b (Lib.lt_of_heap HBk.out) (fun e => HN.out e.symm)).trans HBk.out; have c1x : w1.cell? ⟨b, 1, none⟩ = some (.slice A m d) := (by rw [Lib.cell_of_heap hk1]; rfl); have f1x : w1.frozen? ⟨b, 1, none⟩ = false := Lib.frozen_of_heap hk1 1; have HK1 := Lib.hid hk1; have HO1 := Lib.hid hown1; have HG1 := Lib.hid hg1; have HA1 := Lib.hid hat1; clear hk1 hown1 hg1 hat1)
  go_ret2
  have hA2b : A2.map (·.block) ≠ some b := by
    rcases HA1.out with e | e
    · rw [e]; exact HN.out
    · rw [e]
      have := Lib.lt_of_heap HBk.out
      intro e2
      injection e2 with e2
      omega
  have hset : (w1.setCell ⟨b, 1, none⟩ (.slice A2 (m + n) d2)).heap[b]? = some (.cells #[.pointer (some ⟨b, 0, none⟩), .slice A2 (m + n) d2] 57 (0, 0)) := by
    have := Lib.heap_setCell_same (i := 1) HK1.out (.slice A2 (m + n) d2)
    simpa using this
  have hg2 := Lib.grownBy_setCell w1 b 1 (.slice A2 (m + n) d2)
  refine ⟨rfl, ⟨hB, .slice A2 (m + n) d2, hset, ?_, ?_⟩, ?_, ?_⟩
  · have h3 : OB _ B A2 (m + n) d2 (l ++ news) := HO1.out.kept hg2 (fun b' o' e e' => hA2b (by rw [e]; simpa using e'.symm))
    rw [Lib.byteCells_length, List.length_append, HM.out, HL.out]
    exact h3.2
  · cases A2 with
    | none => simp [Value.ownBlock]
    | some x =>
      have := HO1.out.spot x rfl
      simpa [Value.ownBlock] using hA2b
  · exact (HO.out.grows (Below.refl B w) HG1.out (Nat.le_refl _) hw).setCell (p := ⟨b, 1, none⟩) hB _
  · refine ((Lib.OthersKept.refl 5 (some b) w).grown HG1.out (fun g hg => ?_)).setCell ⟨b, 1, none⟩ rfl _
    rcases HO.out.2.2 with ⟨he, _⟩ | ⟨g', cap, cur, hv, _, hh, _⟩
    · injection he with e; subst e; cases hg
    · injection hv with e; subst e
      cases hg
      exact ⟨_, _, hh⟩

theorem bldSink (b B : Nat) (hB : B ≤ b) : IsSink 55 62 b B (BldS b B) where
  base := hB
  lt := fun _ _ h => Lib.lt_of_heap h.parts.2.choose_spec.choose_spec.1
  meth := fun w => by kernel_rfl
  ent := fun args w => by kernel_rfl
  write := fun l news bd od n c w h hw hr hne hnot hl => bldWrite b B l news _ n c w h hw hr hl
  drew := fun l w h => h
  drewN := fun l w k h => h
  keep := fun l d w w' h hg hd hnot => by
    obtain ⟨hB, v, hbk, hown, hne⟩ := h
    refine ⟨hB, v, (hg.block b (Lib.lt_of_heap hbk) (fun e => hd (Option.some.inj e).symm)).trans hbk, hown.kept hg ?_, hne⟩
    rcases hown.2 with ⟨rfl, _⟩ | ⟨g, cap, cur, rfl, _, hh, _⟩
    · exact .inl rfl
    · refine .inr (fun e => ?_)
      have : g = d := by simpa [Value.ownBlock] using e
      subst this
      exact hnot _ _ hh

end Go.Proofs.Ytkhoifaakidfcaa
