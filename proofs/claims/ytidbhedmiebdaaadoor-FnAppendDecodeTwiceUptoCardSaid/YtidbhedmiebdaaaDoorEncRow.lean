/-
  encoding/hex.Encode of no bytes; what a row reads as behind it.
-/
import Derived.Test.YtidbhedmiebdaaaDoorClone
namespace Go.Proofs.YtidbhedmiebdaaaDoor
open Go.RowKit Go.Lib
set_option linter.unusedVariables false

set_option maxHeartbeats 400000 in
/-- encoding/hex.Encode of no bytes. -/
theorem hexEncode0 (D : Option Addr) (nd cd : Nat) (A : Option Addr) (c : Nat) (w : World) :
    Calls Tryd.prog 33 #[.slice D nd cd, .slice A 0 c] w fun e w' => e = .returned (.int .i64 0) ∧ w = w' := by
  go_enter Tryd.func33, Tryd.ntmps33
  go_wp2
  go_loopw [5, 10] (fun vj vi wr => vi = .int .i64 0 ∧ vj = .int .i64 0 ∧ w = wr) (fun _ _ _ => 0)
  case atStart => exact ⟨rfl, rfl, rfl⟩
  case round =>
    obtain ⟨rfl, rfl, rfl⟩ := hrel
    go_wp2
    go_ret
    exact ⟨rfl, rfl⟩

theorem enc_read {f : Nat → Value} {l ld : List UInt8} {n od : Nat} (hl : l.length = n) (hf : ∀ i b, ld[i]? = some b → f i = .int .u8 (b.toNat : Int)) (hod : od ≤ ld.length) :
    ∀ i b, (ld.take od ++ Hx.encode l ++ ld.drop (od + 2 * n))[i]? = some b → Hx.row f od l n i = .int .u8 (b.toNat : Int) := by
  intro i b hb
  have he : (Hx.encode l).length = 2 * n := by rw [Hx.encode_length, hl]
  have ht : (ld.take od).length = od := by rw [List.length_take]; omega
  unfold Hx.row
  by_cases h1 : od ≤ i ∧ i < od + 2 * n
  · rw [if_pos h1]
    rw [List.getElem?_append_left (by rw [List.length_append]; omega), List.getElem?_append_right (by omega), ht] at hb
    rw [hb]
    rfl
  · rw [if_neg h1]
    refine hf i b ?_
    by_cases h2 : i < od
    · rw [List.append_assoc, List.getElem?_append_left (by omega), List.getElem?_take, if_pos h2] at hb
      exact hb
    · rw [List.getElem?_append_right (by rw [List.length_append]; omega), List.length_append, ht, he, List.getElem?_drop, show od + 2 * n + (i - (od + 2 * n)) = i by omega] at hb
      exact hb

end Go.Proofs.YtidbhedmiebdaaaDoor
