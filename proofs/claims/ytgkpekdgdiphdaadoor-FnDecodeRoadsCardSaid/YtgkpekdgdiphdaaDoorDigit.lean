/-
  Contracts of the laws' own helper same; and the thin package's DecodeString with its answer under plain names.
-/
import Derived.Test.YtgkpekdgdiphdaaDoorFault
namespace Go.Proofs.YtgkpekdgdiphdaaDoor
open Go.RowKit Go.Lib
set_option linter.unusedVariables false

/-- Is it a digit? -/
def digB (c : UInt8) : Bool := decide (Hx.v c ≤ 15)

theorem digB_true {c : UInt8} (h : Hx.v c ≤ 15) : digB c = true := by unfold digB; simpa using h
theorem digB_false {c : UInt8} (h : 15 < Hx.v c) : digB c = false := by unfold digB; simp; omega
theorem digB_iff (c : UInt8) : digB c = true ↔ Hx.v c ≤ 15 := by unfold digB; simp

set_option maxHeartbeats 400000 in
theorem same_any (A : Option Addr) (n c : Nat) (l : List UInt8) (B : Option Addr) (m d : Nat) (k : List UInt8) (w : World) (h : RB w A n l) (h' : RB w B m k) :
    Calls Tryd.prog 9 #[.slice A n c, .slice B m d] w fun e w' => e = .returned (.bool (l == k)) ∧ w = w' := by
  have q := conv h c
  have q' := conv h' d
  clear h h'
  go_enter Tryd.func9, Tryd.ntmps9
  go_wp2
  go_ret
  refine ⟨ret_bool ?_, rfl⟩
  simp

/-- impl.DecodeString, its answer under plain names. -/
theorem decText (s : ByteArray) (w : World) (a : Addr) (hE : ErrAt w a) (hbig : s.size ≤ 562949953421312) :
    Calls Tryd.prog 7 #[.string s] w fun e w' => ∃ A n c b0 b1 b2, e = .returned (.tuple #[.slice A n c, .agg #[.bool b0, .bool b1, .int .u8 b2]]) ∧
      Hid (RB w' A n (Hx.decode s.toList).1) ∧ Hid ((Hx.decode s.toList).1.length = n) ∧ n ≤ c ∧ c ≤ 281474976710656 ∧ n ≤ s.size / 2 ∧ Hid (b0 = Hex.bad (Hx.decode s.toList).2) ∧ Hid (b1 = Hex.wrong (Hx.decode s.toList).2) ∧ Hid (b2 = ((Hex.byteOf (Hx.decode s.toList).2).toNat : Int)) ∧ Below w.heap.size w w' ∧ Hid (ErrAt w' a) := by
  refine (decodeString s w a hE hbig).mono ?_
  rintro e w' ⟨A, c, rfl, hr, hle, hc, hb⟩
  rw [Go.ByteArray.toList_eq]
  have hl := Hx.decode_len s.data.toList
  rw [← Lib.size_eq] at hl
  exact ⟨A, _, c, _, _, _, rfl, hr, rfl, hle, hc, hl, rfl, rfl, rfl, hb, hE.below hb⟩

end Go.Proofs.YtgkpekdgdiphdaaDoor
