/-
  Contracts of the thin package: fault (an error read as a Fault) and DecodeString.
-/
import Derived.Test.YtgkpekdgdiphdaaDoorDecode
namespace Go.Proofs.YtgkpekdgdiphdaaDoor
open Go.RowKit Go.Lib
set_option linter.unusedVariables false

/-- The thin package's Fault for the way a decoding ends. -/
def faultV (o : Hx.Out) : Value := .agg #[.bool (Hex.bad o), .bool (Hex.wrong o), .int .u8 ((Hex.byteOf o).toNat : Int)]

theorem assert_yes (v : Value) (w : World) : (Instr.typeAssert (.iface 48 v) 38 48 true).run Tryd.prog w = .ok (.tuple #[v, .bool true]) w := by kernel_rfl
theorem assert_no (v : Value) (w : World) : (Instr.typeAssert (.iface 53 v) 38 48 true).run Tryd.prog w = .ok (.tuple #[.int .u8 0, .bool false]) w := by kernel_rfl

set_option maxHeartbeats 400000 in
theorem fault_ok (w : World) : Calls Tryd.prog 15 #[.nilIface] w fun e w' => e = .returned (.agg #[.bool false, .bool false, .int .u8 0]) ∧ Below w.heap.size w w' := by
  go_enter Tryd.func15, Tryd.ntmps15
  go_wp2
  exact bodyPost_ret (v := .agg #[.bool false, .bool false, .int .u8 0]) (by simp [results, Tryd.results15, go_sem]) rfl ⟨rfl, (Below.refl _ _).alloc (Nat.le_refl _) _⟩

set_option maxHeartbeats 400000 in
theorem fault_bad (x : Int) (w : World) : Calls Tryd.prog 15 #[.iface 48 (.int .u8 x)] w fun e w' => e = .returned (.agg #[.bool true, .bool true, .int .u8 x]) ∧ Below w.heap.size w w' := by
  have hta := assert_yes
  go_enter Tryd.func15, Tryd.ntmps15
  go_wp2
  exact bodyPost_ret (v := .agg #[.bool true, .bool true, .int .u8 x]) (by simp [results, Tryd.results15, go_sem]) rfl ⟨rfl, (Below.refl _ _).alloc (Nat.le_refl _) _⟩

set_option maxHeartbeats 400000 in
theorem fault_odd (a : Addr) (w : World) : Calls Tryd.prog 15 #[.iface 53 (.pointer (some a))] w fun e w' => e = .returned (.agg #[.bool true, .bool false, .int .u8 0]) ∧ Below w.heap.size w w' := by
  have hta := assert_no
  go_enter Tryd.func15, Tryd.ntmps15
  go_wp2
  exact bodyPost_ret (v := .agg #[.bool true, .bool false, .int .u8 0]) (by simp [results, Tryd.results15, go_sem]) rfl ⟨rfl, (Below.refl _ _).alloc (Nat.le_refl _) _⟩

theorem fault_any (a : Addr) (o : Hx.Out) (w : World) : Calls Tryd.prog 15 #[errOf a o] w fun e w' => e = .returned (faultV o) ∧ Below w.heap.size w w' := by
  cases o with
  | ok => exact fault_ok w
  | bad c => exact fault_bad (c.toNat : Int) w
  | odd => exact fault_odd a w

set_option maxHeartbeats 1000000 in
/-- The thin package's DecodeString. -/
theorem decodeStringA (s : ByteArray) (w : World) (a : Addr) (hE : ErrAt w a) (hbig : s.size ≤ 562949953421312) :
    Calls Tryd.prog 7 #[.string s] w fun e w' => ∃ c, e = .returned (.tuple #[.slice (some ⟨w.heap.size + 1, 0, none⟩) (Hx.decode s.data.toList).1.length c, faultV (Hx.decode s.data.toList).2]) ∧
      RB w' (some ⟨w.heap.size + 1, 0, none⟩) (Hx.decode s.data.toList).1.length (Hx.decode s.data.toList).1 ∧ (Hx.decode s.data.toList).1.length ≤ c ∧ c ≤ 281474976710656 ∧ Below w.heap.size w w' ∧ w.heap.size + 1 < w'.heap.size := by
  generalize hD0 : Hx.decode s.data.toList = D
  obtain ⟨D1, D2⟩ := D
  have hD := Lib.hid hD0
  clear hD0
  have HE := Lib.hid hE
  clear hE
  obtain ⟨b0, b1, b2, hf⟩ : ∃ b0 b1 b2, faultV D2 = .agg #[.bool b0, .bool b1, .int .u8 b2] := ⟨_, _, _, rfl⟩
  have HF := Lib.hid hf
  clear hf
  go_enter Tryd.func7, Tryd.ntmps7
  go_wp2_with fail
  have hB1 := Lib.hid ((Below.refl _ w).alloc (Nat.le_refl _) (.cells #[.bool false, .bool false, .int .u8 0] 24))
  have hc := hexDecodeString s _ a (HE.out.below hB1.out) hbig
  rw [hD.out] at hc
  refine hc.mono ?_
  rintro e w2 ⟨c, rfl, hr, hle, hcb, hb2, hszB0⟩
  have hszB : w.heap.size + 1 < w2.heap.size := by simpa using hszB0
  clear hszB0
  simp only [World.size_alloc] at hr ⊢
  have HR := Lib.hid hr
  have hsz : w.heap.size < w2.heap.size := by have := hb2.size; simp at this; omega
  have hB2 := Lib.hid (hB1.out.trans (hb2.mono hB1.out.size))
  have q0 : ∀ i v, (w.alloc (.cells #[.bool false, .bool false, .int .u8 0] 24)).cell? ⟨w.heap.size, i, none⟩ = some v → w2.cell? ⟨w.heap.size, i, none⟩ = some v := fun i v h => (hb2.cell (p := ⟨w.heap.size, i, none⟩) (by simp)).trans h
  have f0 : ∀ i, w2.frozen? ⟨w.heap.size, i, none⟩ = false := fun i => (hb2.frozen (p := ⟨w.heap.size, i, none⟩) (by simp)).trans (by simp [go_sem])
  have c0 := q0 0 (.bool false) (by simp [go_sem])
  have c1 := q0 1 (.bool false) (by simp [go_sem])
  have c2 := q0 2 (.int .u8 0) (by simp [go_sem])
  have HB2 := Lib.hid hb2
  clear hr q0 hc hb2
  go_wp2_with fail
  refine (fault_any a D2 _).mono ?_
  rintro e w3 ⟨rfl, hb3⟩
  rw [HF.out]
  have hsz3 : w.heap.size < w3.heap.size := by have := hb3.size; omega
  have g0 := (hb3.cell (p := ⟨w.heap.size, 0, none⟩) hsz).trans c0
  have g1 := (hb3.cell (p := ⟨w.heap.size, 1, none⟩) hsz).trans c1
  have g2 := (hb3.cell (p := ⟨w.heap.size, 2, none⟩) hsz).trans c2
  have k0 : ∀ i, w3.frozen? ⟨w.heap.size, i, none⟩ = false := fun i => (hb3.frozen (p := ⟨w.heap.size, i, none⟩) hsz).trans (f0 i)
  have HB3 := Lib.hid hb3
  clear c0 c1 c2 f0 hb3
  go_wp2_with fail
  have HR3 := Lib.hid (HR.out.below HB3.out)
  refine bodyPost_ret (v := .tuple #[.slice (some ⟨w.heap.size + 1, 0, none⟩) D1.length c, .agg #[.bool b0, .bool b1, .int .u8 b2]]) (by simp [results, Tryd.results7, go_sem, g0, g1, g2]) rfl ⟨c, by rw [HF.out], ?_, hle, hcb, ?_, ?_⟩
  · have hne : ∀ b o, (some ⟨w.heap.size + 1, 0, none⟩ : Option Addr) = some ⟨b, o, none⟩ → b ≠ w.heap.size := fun b o e => by
      injection e with e; injection e with e1; omega
    exact ((HR3.out.setOther hne _).setOther hne _).setOther hne _
  · have hB3 := hB2.out.trans (HB3.out.mono hB2.out.size)
    exact ((hB3.setCell (Nat.le_refl _) _).setCell (Nat.le_refl _) _).setCell (Nat.le_refl _) _
  · have h1 := HB3.out.size
    have h2 := hszB
    simp [World.setCell]
    omega

theorem decodeString (s : ByteArray) (w : World) (a : Addr) (hE : ErrAt w a) (hbig : s.size ≤ 562949953421312) :
    Calls Tryd.prog 7 #[.string s] w fun e w' => ∃ A c, e = .returned (.tuple #[.slice A (Hx.decode s.data.toList).1.length c, faultV (Hx.decode s.data.toList).2]) ∧
      RB w' A (Hx.decode s.data.toList).1.length (Hx.decode s.data.toList).1 ∧ (Hx.decode s.data.toList).1.length ≤ c ∧ c ≤ 281474976710656 ∧ Below w.heap.size w w' :=
  (decodeStringA s w a hE hbig).mono fun _ _ ⟨c, h1, h2, h3, h4, h5, _⟩ => ⟨_, c, h1, h2, h3, h4, h5⟩

end Go.Proofs.YtgkpekdgdiphdaaDoor
