/-
  For a region that draws its order and holds calls: what stays below, in whatever order it came about.
-/
import Derived.Test.YtnplhpckjcmgmaaDoorDigit
namespace Go.Proofs.YtnplhpckjcmgmaaDoor
open Go.RowKit Go.Lib
set_option linter.unusedVariables false

theorem below_up {w W : World} {o : Obj} (h : Below w.heap.size w W) : Below w.heap.size w (W.alloc o) := h.alloc h.size o
theorem below_on {w W w2 : World} (h : Below w.heap.size w W) (hb : Below W.heap.size W w2) : Below w.heap.size w w2 := h.trans (hb.mono h.size)
theorem bcell {W w1 : World} (hb : Below W.heap.size W w1) : (∀ b o, b < W.heap.size → w1.cell? ⟨b, o, none⟩ = W.cell? ⟨b, o, none⟩) ∧ (∀ b o, b < W.heap.size → w1.frozen? ⟨b, o, none⟩ = W.frozen? ⟨b, o, none⟩) :=
  ⟨fun b o h => hb.cell (p := ⟨b, o, none⟩) h, fun b o h => hb.frozen (p := ⟨b, o, none⟩) h⟩

/-- 'string([]byte{c})'. -/
theorem conv_one (c : UInt8) (W : World) (b : Nat) (h : W.cell? ⟨b, 0, none⟩ = some (.int .u8 (c.toNat : Int))) : (convert 22 9 (.slice (some ⟨b, 0, none⟩) 1 1)).run Tryd.prog W = .ok (.string ⟨#[c]⟩) W :=
  conv (l := [c]) ⟨rfl, fun _ => ⟨b, 0, rfl, World.block_lt_of_cell? W _ h, fun i d hi => by
    cases i with
    | zero => simp at hi; subst hi; exact h
    | succ i => simp at hi⟩⟩ 1

/-- impl.DecodeString, and where its bytes lie. -/
theorem decTextA (s : ByteArray) (w : World) (a : Addr) (hE : ErrAt w a) (hbig : s.size ≤ 562949953421312) :
    Calls Tryd.prog 9 #[.string s] w fun e w' => ∃ A n c b0 b1 b2, e = .returned (.tuple #[.slice A n c, .agg #[.bool b0, .bool b1, .int .u8 b2]]) ∧
      Hid (RB w' A n (Hx.decode s.toList).1) ∧ Hid ((Hx.decode s.toList).1.length = n) ∧ n ≤ c ∧ c ≤ 281474976710656 ∧ n ≤ s.size / 2 ∧ Hid (b0 = Hex.bad (Hx.decode s.toList).2) ∧ Hid (b1 = Hex.wrong (Hx.decode s.toList).2) ∧ Hid (b2 = ((Hex.byteOf (Hx.decode s.toList).2).toNat : Int)) ∧ Below w.heap.size w w' ∧ Hid (∀ b o, A = some ⟨b, o, none⟩ → w.heap.size ≤ b ∧ b < w'.heap.size) := by
  refine (decodeStringA s w a hE hbig).mono ?_
  rintro e w' ⟨c, rfl, hr, hle, hc, hb, hsz⟩
  rw [Go.ByteArray.toList_eq]
  have hl := Hx.decode_len s.data.toList
  rw [← Lib.size_eq] at hl
  exact ⟨_, _, c, _, _, _, rfl, hr, rfl, hle, hc, hl, rfl, rfl, rfl, hb, fun b o e => by
    injection e with e; injection e with e1; omega⟩

theorem app_list (s t : ByteArray) : (s ++ t).toList = s.toList ++ t.toList := by
  rw [Go.ByteArray.toList_eq, Go.ByteArray.toList_eq, Go.ByteArray.toList_eq]
  simp
theorem one_list (c : UInt8) : (⟨#[c]⟩ : ByteArray).toList = [c] := by rw [Go.ByteArray.toList_eq]

end Go.Proofs.YtnplhpckjcmgmaaDoor
