/-
  A place to write to, behind io.Writer: what the encoder's and the dumper's walks ask of it; a bytes.Buffer that the call has made is one.
-/
import Derived.Test.YtkhoifaakidfcaaAppend
import Derived.Test.YtkhoifaakidfcaaBuf
import Derived.Lib.BufferOwn
import Derived.Lib.BufferOld
import Derived.Lib.BufferKept
namespace Go.Proofs.Ytkhoifaakidfcaa
open Go.RowKit Go.Lib
set_option linter.unusedVariables false

theorem byteCells_eq (l : List UInt8) : Lib.byteCells l = cellsB l := rfl

/-- 'S l w': the sink at block b holds the bytes l; its blocks lie from B on; function F is its Write. -/
structure IsSink (T F b B : Nat) (S : List UInt8 → World → Prop) : Prop where
  base : B ≤ b
  lt : ∀ l w, S l w → b < w.heap.size
  meth : ∀ w, (method 201 T (.pointer (some ⟨b, 0, none⟩)) "Write").run Try.prog w = .ok (F, .pointer (some ⟨b, 0, none⟩)) w
  ent : ∀ args w, (callFunc F args).run Try.prog w = .ok (.enter F args) w
  write : ∀ (l news : List UInt8) (bd od n c : Nat) (w : World), S l w → B ≤ w.heap.size → RB w (some ⟨bd, od, none⟩) n news → bd ≠ b → (∀ cs fz, w.heap[bd]? ≠ some (.cells cs 5 fz)) → l.length + n ≤ 140737488355328 →
    Calls Try.prog F #[.pointer (some ⟨b, 0, none⟩), .slice (some ⟨bd, od, none⟩) n c] w fun e w' => e = .returned (.tuple #[.int .i64 n, .nilIface]) ∧ S (l ++ news) w' ∧ Below B w w' ∧ Lib.OthersKept 5 (some b) w w'
  drew : ∀ l w, S l w → S l w.drew
  drewN : ∀ l w k, S l w → S l (w.drewN k)
  keep : ∀ (l : List UInt8) (d : Nat) (w w' : World), S l w → w.grownBy w' (some d) → d ≠ b → (∀ cs fz, w.heap[d]? ≠ some (.cells cs 5 fz)) → S l w'

theorem rowIs_not {w : World} {d : Nat} {T N : Nat} {f : Nat → Value} (h : w.rowIs d T N f) (hT : T ≠ 5) : ∀ cs fz, w.heap[d]? ≠ some (.cells cs 5 fz) := by
  intro cs fz e
  obtain ⟨c, hc, _⟩ := h
  rw [hc] at e
  injection e with e
  injection e with _ e2
  exact hT e2

theorem rowIs_kept {w w' : World} {d b : Nat} {T N : Nat} {f : Nat → Value} (h : w.rowIs d T N f) (hT : T ≠ 5) (hk : Lib.OthersKept 5 (some b) w w') (hd : d ≠ b) : w'.rowIs d T N f := by
  have hn := rowIs_not h hT
  obtain ⟨c, hc, hr⟩ := h
  refine ⟨c, ?_, hr⟩
  exact hk d _ hc (by simpa using hd) (fun cs fz e => hn cs fz (by rw [hc, e]))

theorem grown_of_drew {w w' : World} {r : Option Nat} (h : w.drew.grownBy w' r) : w.grownBy w' r := ⟨h.os, h.tape, h.output, h.size, h.block⟩

theorem below_drewN {B : Nat} {a w : World} (h : Below B a w) (k : Nat) : Below B a (w.drewN k) := ⟨h.os, h.tape, h.output, h.size, h.block⟩

def BufS (b B : Nat) (l : List UInt8) (w : World) : Prop := Lib.IsBuffer 38 5 B b (Lib.byteCells l) w

theorem oneCells (l : List UInt8) : ∀ v ∈ Lib.byteCells l, v.oneCell' = true := Lib.byteCells_one l

theorem bufSink (b B : Nat) (hB : B ≤ b) : IsSink 42 54 b B (BufS b B) where
  base := hB
  lt := fun _ _ h => h.lt
  meth := fun w => by kernel_rfl
  ent := fun args w => by kernel_rfl
  write := fun l news bd od n c w h hw hr hne hnot hl => by
    have hsrc : ∀ j v, (Lib.byteCells news)[j]? = some v → w.cell? ((⟨bd, od, none⟩ : Addr).add j) = some v := by
      intro j u hu
      unfold Lib.byteCells at hu
      rw [List.getElem?_map] at hu
      cases hj : news[j]? with
      | none => rw [hj] at hu; cases hu
      | some x =>
        rw [hj] at hu
        simp only [Option.map_some, Option.some.injEq] at hu
        have hlt := (List.getElem?_eq_some_iff.1 hj).1
        obtain ⟨b0, o0, e, _, hc⟩ := hr.2 (by rw [← hr.1]; omega)
        injection e with e
        injection e with e1 e2
        subst e1 e2
        rw [← hu, Lib.addr_add]
        exact hc j x hj
    refine (Try.Buffer_Write_any B b (Lib.byteCells l) (Lib.byteCells news) ⟨bd, od, none⟩ n c w h hw (oneCells l) (by rw [Lib.byteCells_length, hr.1]) hne hsrc (oneCells news) (by rw [Lib.byteCells_length]; exact hl)).mono ?_
    rintro e w' ⟨he, hI, hb, hk⟩
    refine ⟨he, ?_, hb, hk⟩
    unfold BufS
    rw [Lib.byteCells_append]
    exact hI
  drew := fun l w h => h
  drewN := fun l w k h => h
  keep := fun l d w w' h hg hd hnot => by
    obtain ⟨hB, v, lr, hbk, hown, hne⟩ := h
    refine ⟨hB, v, lr, (hg.block b (Lib.lt_of_heap hbk) (fun e => hd (Option.some.inj e).symm)).trans hbk, hown.kept hg ?_, hne⟩
    rcases hown.2 with ⟨rfl, _⟩ | ⟨g, cap, cur, rfl, _, hh, _⟩
    · exact .inl rfl
    · refine .inr (fun e => ?_)
      have : g = d := by simpa [Value.ownBlock] using e
      subst this
      exact hnot _ _ hh

end Go.Proofs.Ytkhoifaakidfcaa
