/-
  s[:k] and s[k:] of a slice of bytes, nil too.
-/
import Derived.Test.YtgkpekdgdiphdaaDoorCommon
namespace Go.Proofs.YtgkpekdgdiphdaaDoor
open Go.RowKit Go.Lib
set_option linter.unusedVariables false

/-- Where s[k:] begins. -/
def cutA (A : Option Addr) (c k : Nat) : Option Addr := if c = k then A else A.map (·.add k)

theorem sizeU8 (w : World) : (sizeOf (Tryd.prog.elem 22)).run Tryd.prog w = .ok 1 w := by kernel_rfl
theorem elemU8 : Tryd.prog.underlying 22 = some (.slice (Tryd.prog.elem 22)) := by kernel_rfl

theorem run_to (A : Option Addr) (n c : Nat) (k : Int) (h0 : 0 ≤ k) (h1 : k ≤ c) (w : World) :
    (Instr.slice 22 (.slice A n c) none (some (.int .i64 k)) none).run Tryd.prog w = .ok (.slice A k.toNat c) w := by
  rw [run_slice_h (P := Tryd.prog) w 22 A n c elemU8 .i64 k h0 h1, sizeU8]
  simp only [Result.andThen_ok, sliced, Nat.sub_zero, Nat.zero_mul]
  by_cases hc : c = 0
  · rw [if_pos hc]
  · rw [if_neg hc]
    cases A with
    | none => rfl
    | some a => simp [Addr.add]

theorem run_from (A : Option Addr) (n c : Nat) (k : Int) (h0 : 0 ≤ k) (h1 : k ≤ n) (w : World) :
    (Instr.slice 22 (.slice A n c) (some (.int .i64 k)) none none).run Tryd.prog w = .ok (.slice (cutA A c k.toNat) (n - k.toNat) (c - k.toNat)) w := by
  rw [run_slice_l (P := Tryd.prog) w 22 A n c elemU8 .i64 k h0 h1, sizeU8]
  simp only [Result.andThen_ok, sliced, cutA, Nat.mul_one]

section
variable {w : World} {A : Option Addr} {n c k : Nat} {l : List UInt8}

theorem RB.to_ (h : RB w A n l) (hk : k ≤ n) : RB w A k (l.take k) :=
  ⟨by rw [List.length_take, h.1]; omega, fun hn => by
    obtain ⟨b, o, e, hb, hc⟩ := h.2 (by omega)
    refine ⟨b, o, e, hb, fun i c hi => hc i c ?_⟩
    rw [List.getElem?_take] at hi
    split at hi
    · exact hi
    · cases hi⟩

theorem RB.from_ (h : RB w A n l) (hk : k ≤ n) (hc : n ≤ c) : RB w (cutA A c k) (n - k) (l.drop k) :=
  ⟨by rw [List.length_drop, h.1], fun hn => by
    obtain ⟨b, o, e, hb, hc⟩ := h.2 (by omega)
    subst e
    unfold cutA
    rw [if_neg (by omega)]
    have e2 : (⟨b, o, none⟩ : Addr).add k = ⟨b, o + k, none⟩ := by
      unfold Addr.add
      split
      · rename_i h0; subst h0; simp
      · rfl
    refine ⟨b, o + k, by rw [Option.map_some, e2], hb, fun i d hi => ?_⟩
    rw [List.getElem?_drop] at hi
    have := hc (k + i) d hi
    rwa [show o + (k + i) = o + k + i by omega] at this⟩
end

end Go.Proofs.YtgkpekdgdiphdaaDoor
