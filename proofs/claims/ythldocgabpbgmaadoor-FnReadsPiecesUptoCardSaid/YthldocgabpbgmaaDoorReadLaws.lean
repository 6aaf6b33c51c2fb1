/-
  Plain laws of the model of reads: what is read is the beginning of what is decoded; an end that is told.
-/
import Derived.Test.YthldocgabpbgmaaDoorReader
import Derived.Test.YthldocgabpbgmaaDoorSpecDec2
namespace Go.Proofs.YthldocgabpbgmaaDoor
open Go.RowKit Go.Lib
set_option linter.unusedVariables false

namespace Hex
theorem reads_take (pc : Nat) (s : St) (ks : List Nat) (i : Nat) : reads pc s (ks.take i) = (reads pc s ks).take i := by
  induction ks generalizing s i with
  | nil => simp [reads]
  | cons k t ih =>
    cases i with
    | zero => simp [reads]
    | succ i => simp only [List.take_succ_cons, reads]; rw [ih]
theorem ends_take (pc : Nat) (s : St) (ks : List Nat) (i : Nat) : ends pc s (ks.take i) = (ends pc s ks).take i := by
  induction ks generalizing s i with
  | nil => simp [ends]
  | cons k t ih =>
    cases i with
    | zero => simp [ends]
    | succ i => simp only [List.take_succ_cons, ends]; rw [ih]

def start (l : List UInt8) : St := ⟨[], l, none⟩
theorem fine_start (l : List UInt8) : Fine (start l) := fun h => absurd rfl h
theorem left_start (l : List UInt8) : left (start l) = Hx.decode l := by simp [left, start]

theorem begin_ (pc : Nat) (l : List UInt8) (ks : List Nat) : (reads pc (start l) ks).flatten.length ≤ (Hx.decode l).1.length ∧ (reads pc (start l) ks).flatten = (Hx.decode l).1.take (reads pc (start l) ks).flatten.length := by
  have h := left_reads pc (start l) ks (fine_start l)
  rw [left_start] at h
  rw [h]
  simp

theorem some_len (pc : Nat) (s : St) (ks : List Nat) (i k : Nat) (r : List UInt8) (hk : ks[i]? = some k) (hr : (reads pc s ks)[i]? = some r) : r.length ≤ k := by
  induction ks generalizing s i with
  | nil => simp at hk
  | cons x t ih =>
    cases i with
    | zero =>
      simp at hk
      simp [reads] at hr
      subst hk hr
      exact give_le x _
    | succ i =>
      simp at hk
      simp only [reads, List.getElem?_cons_succ] at hr
      exact ih _ i hk hr
theorem some_end (pc : Nat) (s : St) (ks : List Nat) (i : Nat) (z : Int) (hz : (ends pc s ks)[i]? = some z) : 0 ≤ z ∧ z ≤ 3 := by
  induction ks generalizing s i with
  | nil => simp [ends] at hz
  | cons x t ih =>
    cases i with
    | zero =>
      simp [ends] at hz
      subst hz
      exact code_le _
    | succ i =>
      simp only [ends, List.getElem?_cons_succ] at hz
      exact ih _ i hz

theorem end_at (pc : Nat) (s : St) (ks : List Nat) (i : Nat) (z : Int) (hz : (ends pc s ks)[i]? = some z) : z = code (after pc s (ks.take (i + 1))) := by
  induction ks generalizing s i with
  | nil => simp [ends] at hz
  | cons x t ih =>
    cases i with
    | zero =>
      simp [ends] at hz
      subst hz
      simp [after]
    | succ i =>
      simp only [ends, List.getElem?_cons_succ] at hz
      simp only [List.take_succ_cons, after]
      exact ih _ i hz

/-- How a text ends, as a number. -/
def numOut : Hx.Out → Int
  | .ok => 1
  | .bad _ => 2
  | .odd => 3

/-- When an end is told, all is read, and it is the end of the text. -/
theorem end_all (pc : Nat) (l : List UInt8) (ks : List Nat) (i : Nat) (z : Int) (hz : (ends pc (start l) ks)[i]? = some z) (h0 : z ≠ 0) : ((reads pc (start l) ks).take (i + 1)).flatten = (Hx.decode l).1 ∧ z = numOut (Hx.decode l).2 := by
  have hc := end_at pc (start l) ks i z hz
  rw [← reads_take]
  have h := left_reads pc (start l) (ks.take (i + 1)) (fine_start l)
  rw [left_start] at h
  obtain ⟨h1, h2⟩ := code_end (after pc (start l) (ks.take (i + 1))) (by rw [← hc]; exact h0)
  rw [h1, List.append_nil] at h
  refine ⟨by rw [h], ?_⟩
  rw [h, hc]
  rcases h2 with ⟨h2, h3⟩ | ⟨h2, c, h3⟩ | ⟨h2, h3⟩
  · rw [h2, h3]; rfl
  · rw [h2, h3]; rfl
  · rw [h2, h3]; rfl
end Hex

theorem bad_num (o : Hx.Out) : Hex.bad o = decide (Hex.numOut o ≠ 1) := by cases o <;> rfl
theorem wrong_num (o : Hx.Out) : Hex.wrong o = decide (Hex.numOut o = 2) := by cases o <;> rfl
theorem num_three (o : Hx.Out) : Hex.numOut o = 1 ∨ Hex.numOut o = 2 ∨ Hex.numOut o = 3 := by cases o <;> simp [Hex.numOut]

theorem firstI_cases (l : List Int) : firstI l = -1 ∨ ∃ (i : Nat) (z : Int), firstI l = (i : Int) ∧ i < l.length ∧ l[i]? = some z ∧ z ≠ 0 := by
  unfold firstI
  cases h : l.findIdx? (fun z => z != 0) with
  | none => exact .inl rfl
  | some i =>
    rw [List.findIdx?_eq_some_iff_getElem] at h
    obtain ⟨hi, h1, _⟩ := h
    exact .inr ⟨i, l[i], rfl, hi, List.getElem?_eq_getElem hi, by simpa using h1⟩

/-- Sizes from 1 to 1024 are natural numbers. -/
theorem pos_nat (l : List Int) (h : pos l = true) : ∃ ks : List Nat, l = ks.map (fun k : Nat => (k : Int)) ∧ ∀ k ∈ ks, k ≤ 1024 := by
  induction l with
  | nil => exact ⟨[], rfl, fun k hk => by simp at hk⟩
  | cons z t ih =>
    simp only [pos, List.all_cons, Bool.and_eq_true, decide_eq_true_eq] at h
    obtain ⟨ks, rfl, hk⟩ := ih (by simpa [pos] using h.2)
    refine ⟨z.toNat :: ks, ?_, fun k hk' => ?_⟩
    · simp only [List.map_cons]
      congr 1
      omega
    · rcases List.mem_cons.1 hk' with rfl | h'
      · omega
      · exact hk k h'

end Go.Proofs.YthldocgabpbgmaaDoor
