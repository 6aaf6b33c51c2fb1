/-
  Contract: the thin package's Decode.
-/
import Derived.Test.YtgkpekdgdiphdaaDoorDecInto
namespace Go.Proofs.YtgkpekdgdiphdaaDoor
open Go.RowKit Go.Lib
set_option linter.unusedVariables false

set_option maxHeartbeats 2000000 in
theorem implDecode (D : Option Addr) (nd cd : Nat) (ld : List UInt8) (A : Option Addr) (n c : Nat) (l : List UInt8) (w : World) (a : Addr) (hD : RB w D nd ld) (h : RB w A n l) (hroom : n / 2 ≤ nd) (hbig : nd ≤ 211106232532992) (hbig2 : n ≤ 4611686018427387903) (hE : ErrAt w a) :
    Calls Tryd.prog 13 #[.slice D nd cd, .slice A n c] w fun e w' => ∃ A' c' b0 b1 b2, e = .returned (.tuple #[.slice A' nd c', .int .i64 ((Hx.decode l).1.length : Int), .agg #[.bool b0, .bool b1, .int .u8 b2]]) ∧ nd ≤ c' ∧ c' ≤ 9223372036854775807 ∧
      Hid (RB w' A' nd ((Hx.decode l).1 ++ ld.drop (Hx.decode l).1.length)) ∧ Hid ((Hx.decode l).1.length ≤ n / 2) ∧ Hid (b0 = Hex.bad (Hx.decode l).2) ∧ Hid (b1 = Hex.wrong (Hx.decode l).2) ∧ Hid (b2 = ((Hex.byteOf (Hx.decode l).2).toNat : Int)) ∧ Below w.heap.size w w' := by
  have HD := Lib.hid hD
  have HB := Lib.hid h
  have HE := Lib.hid hE
  have hdl0 := Hx.decode_len l
  rw [h.1] at hdl0
  generalize hD0 : Hx.decode l = R at hdl0 ⊢
  obtain ⟨D1, D2⟩ := R
  have hDD := Lib.hid hD0
  have hdl := Lib.hid hdl0
  have hgl : 0 < w.heap.size := World.block_lt_of_cell? w ⟨0, 0, none⟩ hE.1
  obtain ⟨b0, b1, b2, hf⟩ : ∃ b0 b1 b2, faultV D2 = .agg #[.bool b0, .bool b1, .int .u8 b2] := ⟨_, _, _, rfl⟩
  have HF := Lib.hid hf
  have HF3 : Hid (b0 = Hex.bad D2 ∧ b1 = Hex.wrong D2 ∧ b2 = ((Hex.byteOf D2).toNat : Int)) := by
    unfold faultV at hf
    simp at hf
    exact ⟨hf.1.symm, hf.2.1.symm, hf.2.2.symm⟩
  clear hD h hE hD0 hdl0 hf
  go_enter Tryd.func13, Tryd.ntmps13
  go_wp2_with fail
  have hB1 := Lib.hid ((Below.refl _ w).alloc (Nat.le_refl _) (.cells #[.bool false, .bool false, .int .u8 0] 24))
  refine (bytesClone D nd cd ld _ (HD.out.alloc _) hbig).mono ?_
  rintro e w2 ⟨A1, c1, rfl, hO, hb2⟩
  simp only [World.size_alloc] at hO hb2
  have HO := Lib.hid hO
  have hle := hO.le
  simp only [maxLen] at hle
  have hsz : w.heap.size < w2.heap.size := by have := hb2.size; simp at this; omega
  have hB2 := Lib.hid (hB1.out.trans (hb2.mono (by omega)))
  have q0 : ∀ i v, (w.alloc (.cells #[.bool false, .bool false, .int .u8 0] 24)).cell? ⟨w.heap.size, i, none⟩ = some v → w2.cell? ⟨w.heap.size, i, none⟩ = some v := fun i v h => (hb2.cell (p := ⟨w.heap.size, i, none⟩) (by simp)).trans h
  have f0 : ∀ i, w2.frozen? ⟨w.heap.size, i, none⟩ = false := fun i => (hb2.frozen (p := ⟨w.heap.size, i, none⟩) (by simp)).trans (by simp [go_sem])
  have c0 := q0 0 (.bool false) (by simp [go_sem])
  have c1' := q0 1 (.bool false) (by simp [go_sem])
  have c2 := q0 2 (.int .u8 0) (by simp [go_sem])
  have HR2 := Lib.hid (HB.out.below hB2.out)
  have HE2 := Lib.hid (HE.out.below hB2.out)
  clear q0 hO hb2
  go_wp2_with fail
  have hc := hexDecodeO (w.heap.size + 1) A1 nd c1 ld A n c l _ a HO.out HR2.out (fun b o e hn => by
      obtain ⟨b', o', e', hb', _⟩ := HB.out.2 hn
      rw [e] at e'
      injection e' with e'
      injection e' with e1
      omega) hroom hbig2 HE2.out (by omega)
  rw [hDD.out] at hc
  refine hc.mono ?_
  rintro e w3 ⟨rfl, hO3, hg3⟩
  have hAb : A1.map (·.block) ≠ some w.heap.size := by
    intro e
    rcases HO.out.cases_ with ⟨rfl, _⟩ | ⟨g, f, rfl, hg, _⟩
    · cases e
    · simp at e; omega
  have hB3 : Hid (Below w.heap.size w w3) := HO.out.grows hB2.out hg3 (by omega) (by omega)
  have hsz3 : w.heap.size < w3.heap.size := Nat.lt_of_lt_of_le hsz hg3.size
  have g0 := hg3.cell c0 (fun e => hAb e.symm)
  have g1 := hg3.cell c1' (fun e => hAb e.symm)
  have g2 := hg3.cell c2 (fun e => hAb e.symm)
  have gf : ∀ i, w3.frozen? ⟨w.heap.size, i, none⟩ = false := fun i => (World.frozen?_of_block (a := ⟨w.heap.size, i, none⟩) (hg3.block w.heap.size hsz (fun e => hAb e.symm))).trans (f0 i)
  have HO3 := Lib.hid hO3
  clear hO3 hg3 hc c0 c1' c2 f0
  go_wp2_with fail
  refine (fault_any a D2 _).mono ?_
  rintro e w4 ⟨rfl, hb4⟩
  rw [HF.out]
  have k0 := (hb4.cell (p := ⟨w.heap.size, 0, none⟩) hsz3).trans g0
  have k1 := (hb4.cell (p := ⟨w.heap.size, 1, none⟩) hsz3).trans g1
  have k2 := (hb4.cell (p := ⟨w.heap.size, 2, none⟩) hsz3).trans g2
  have kf : ∀ i, w4.frozen? ⟨w.heap.size, i, none⟩ = false := fun i => (hb4.frozen (p := ⟨w.heap.size, i, none⟩) hsz3).trans (gf i)
  have HB4 := Lib.hid hb4
  clear g0 g1 g2 gf hb4
  go_wp2_with fail
  have HR4 := Lib.hid (HO3.out.below HB4.out)
  refine bodyPost_ret (v := .tuple #[.slice A1 nd c1, .int .i64 (D1.length : Int), .agg #[.bool b0, .bool b1, .int .u8 b2]]) (by simp [results, Tryd.results13, go_sem, k0, k1, k2]) rfl ⟨A1, c1, b0, b1, b2, rfl, hle.1, by omega, ?_, hdl, HF3.out.1, HF3.out.2.1, HF3.out.2.2, ?_⟩
  · have hne : ∀ b o, A1 = some ⟨b, o, none⟩ → b ≠ w.heap.size := fun b o e he => by
      subst e
      exact hAb (by simp [he])
    exact ((HR4.out.rb.setOther hne _).setOther hne _).setOther hne _
  · have hB4 := hB3.out.trans (HB4.out.mono hB3.out.size)
    exact ((hB4.setCell (Nat.le_refl _) _).setCell (Nat.le_refl _) _).setCell (Nat.le_refl _) _

end Go.Proofs.YtgkpekdgdiphdaaDoor
