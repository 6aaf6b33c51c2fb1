/-
  Contracts of the reference: spec.Value, spec.Decode; and the laws' helper sameFault.
-/
import Derived.Test.YtgkpekdgdiphdaaDoorDigit
import Derived.Test.YtgkpekdgdiphdaaDoorAppend
namespace Go.Proofs.YtgkpekdgdiphdaaDoor
open Go.RowKit Go.Lib
set_option linter.unusedVariables false

/-- The value of a digit, or -1. -/
def valI (c : UInt8) : Int := if Hx.v c ≤ 15 then (Hx.v c : Int) else -1

theorem valI_num (c : UInt8) : valI c = if 48 ≤ c.toNat ∧ c.toNat ≤ 57 then (c.toNat : Int) - 48 else if 97 ≤ c.toNat ∧ c.toNat ≤ 102 then (c.toNat : Int) - 97 + 10 else if 65 ≤ c.toNat ∧ c.toNat ≤ 70 then (c.toNat : Int) - 65 + 10 else -1 := by
  refine Hex.of_all (fun c => valI c = if 48 ≤ c.toNat ∧ c.toNat ≤ 57 then (c.toNat : Int) - 48 else if 97 ≤ c.toNat ∧ c.toNat ≤ 102 then (c.toNat : Int) - 97 + 10 else if 65 ≤ c.toNat ∧ c.toNat ≤ 70 then (c.toNat : Int) - 65 + 10 else -1) ?_ c
  decide +kernel

set_option maxHeartbeats 1000000 in
theorem value_num (x : Int) (h0 : 0 ≤ x) (hx : x < 256) (b : Int) (h : b = if 48 ≤ x ∧ x ≤ 57 then x - 48 else if 97 ≤ x ∧ x ≤ 102 then x - 97 + 10 else if 65 ≤ x ∧ x ≤ 70 then x - 65 + 10 else -1) (w : World) :
    Calls Tryd.prog 19 #[.int .u8 x] w fun e w' => e = .returned (.int .i64 b) ∧ w = w' := by
  have HB := Lib.hid h
  clear h
  have cases7 : x < 48 ∨ (48 ≤ x ∧ x ≤ 57) ∨ (57 < x ∧ x < 65) ∨ (65 ≤ x ∧ x ≤ 70) ∨ (70 < x ∧ x < 97) ∨ (97 ≤ x ∧ x ≤ 102) ∨ 102 < x := by omega
  rcases cases7 with h1 | ⟨h1, h2⟩ | ⟨h1, h2⟩ | ⟨h1, h2⟩ | ⟨h1, h2⟩ | ⟨h1, h2⟩ | h1
  all_goals
    go_enter Tryd.func19, Tryd.ntmps19
    go_wp2
    go_ret
    refine ⟨ret_int ?_, rfl⟩
    rw [HB.out]
    first
      | (rw [if_pos (by omega)]; done)
      | (rw [if_neg (by omega), if_pos (by omega)]; done)
      | (rw [if_neg (by omega), if_neg (by omega), if_pos (by omega)]; done)
      | (rw [if_neg (by omega), if_neg (by omega), if_neg (by omega)]; done)

theorem value_any (c : UInt8) (w : World) : Calls Tryd.prog 19 #[.int .u8 (c.toNat : Int)] w fun e w' => e = .returned (.int .i64 (valI c)) ∧ w = w' := by
  refine value_num _ (by omega) (by have := c.toNat_lt; omega) _ ?_ w
  rw [valI_num]
  have e1 : (48 ≤ c.toNat ∧ c.toNat ≤ 57) = (48 ≤ (c.toNat : Int) ∧ (c.toNat : Int) ≤ 57) := by simp; omega
  have e2 : (97 ≤ c.toNat ∧ c.toNat ≤ 102) = (97 ≤ (c.toNat : Int) ∧ (c.toNat : Int) ≤ 102) := by simp; omega
  have e3 : (65 ≤ c.toNat ∧ c.toNat ≤ 70) = (65 ≤ (c.toNat : Int) ∧ (c.toNat : Int) ≤ 70) := by simp; omega
  simp only [e1, e2, e3]

/-- What spec.Decode answers. -/
def SpecOut (l : List UInt8) (w : World) (e : Ending) (w' : World) : Prop :=
  ∃ (X : Option Addr) (m d : Nat) (b0 b1 : Bool) (b2 : Int), e = .returned (.tuple #[.slice X m d, .agg #[.bool b0, .bool b1, .int .u8 b2]]) ∧
    Hid (RB w' X m (Hx.decode l).1) ∧ Hid ((Hx.decode l).1.length = m) ∧ m ≤ d ∧ d ≤ maxLen ∧ Hid (b0 = Hex.bad (Hx.decode l).2) ∧ Hid (b1 = Hex.wrong (Hx.decode l).2) ∧ Hid (b2 = ((Hex.byteOf (Hx.decode l).2).toNat : Int)) ∧ Below w.heap.size w w'

/-- The slot of the Fault: three cells. -/
def zeroF : Nat → Value := fun i => if i = 0 then .bool false else if i = 1 then .bool false else .int .u8 0

theorem zeroF_row (w : World) : (w.alloc (.cells #[.bool false, .bool false, .int .u8 0] 31)).rowIs w.heap.size 31 3 zeroF :=
  World.rowIs_alloc w #[.bool false, .bool false, .int .u8 0] _ zeroF (fun i hi => by
    have : i < 3 := hi
    match i, this with
    | 0, _ => rfl
    | 1, _ => rfl
    | 2, _ => rfl)

/-- At the end: the fault is stored in its slot. -/
theorem specOut_mk {l : List UInt8} {w wr : World} {X : Option Addr} {m d : Nat} {pre : List UInt8} {o : Hx.Out} (hD : Hx.decode l = (pre, o)) (ho : OB wr (w.heap.size + 1) X m d pre) (hb : Below w.heap.size w wr) (b0 b1 : Bool) (b2 : Int)
    (h0 : b0 = Hex.bad o) (h1 : b1 = Hex.wrong o) (h2 : b2 = ((Hex.byteOf o).toNat : Int)) :
    SpecOut l w (.returned (.tuple #[.slice X m d, .agg #[.bool b0, .bool b1, .int .u8 b2]])) (((wr.setCell ⟨w.heap.size, 0, none⟩ (.bool b0)).setCell ⟨w.heap.size, 1, none⟩ (.bool b1)).setCell ⟨w.heap.size, 2, none⟩ (.int .u8 b2)) := by
  refine ⟨X, m, d, b0, b1, b2, rfl, ?_, ?_, ho.le.1, ho.le.2, ?_, ?_, ?_, ((hb.setCell (Nat.le_refl _) _).setCell (Nat.le_refl _) _).setCell (Nat.le_refl _) _⟩
  · have hne : ∀ b o, X = some ⟨b, o, none⟩ → b ≠ w.heap.size := fun b o e => by
      have := (ho.block b o e).1
      omega
    rw [hD]
    exact ((ho.rb.setOther hne _).setOther hne _).setOther hne _
  · rw [hD]; exact ho.len
  · rw [hD]; exact h0
  · rw [hD]; exact h1
  · rw [hD]; exact h2

theorem SpecOut.drew {l : List UInt8} {w w' : World} {e : Ending} (h : SpecOut l w e w') : SpecOut l w e w'.drew := by
  obtain ⟨X, m, d, b0, b1, b2, h1, h2, h3, h4, h5, h6, h7, h8, h9⟩ := h
  exact ⟨X, m, d, b0, b1, b2, h1, h2, h3, h4, h5, h6, h7, h8, h9.drew⟩

theorem valI_dig {c : UInt8} (h : Hx.v c ≤ 15) : valI c = (Hx.v c : Int) := by unfold valI; rw [if_pos h]
theorem valI_not {c : UInt8} (h : 15 < Hx.v c) : valI c = -1 := by unfold valI; rw [if_neg (by omega)]

end Go.Proofs.YtgkpekdgdiphdaaDoor
