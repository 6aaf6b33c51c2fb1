/-
  Contracts: encoding/hex.AppendDecode onto a row of the call's own; the thin package's AppendDecode.
-/
import Derived.Test.YtgkpekdgdiphdaaDoorGrow
import Derived.Test.YtgkpekdgdiphdaaDoorImplDec
namespace Go.Proofs.YtgkpekdgdiphdaaDoor
open Go.RowKit Go.Lib
set_option linter.unusedVariables false

theorem below_none' {B : Nat} {w w' : World} (hg : w.grownBy w' none) (hB : B ≤ w.heap.size) : Below B w w' := (Below.refl B w).grown hg hB (fun k hk => by cases hk)

set_option maxHeartbeats 400000 in
theorem decodedLen (n m : Nat) (w : World) (hm : m = n / 2) (hbig : n ≤ 4611686018427387903) : Calls Tryd.prog 21 #[.int .i64 (n : Int)] w fun e w' => e = .returned (.int .i64 (m : Int)) ∧ w = w' := by
  go_enter Tryd.func21, Tryd.ntmps21
  go_wp2
  go_ret
  exact ⟨ret_int (by omega), rfl⟩

set_option maxHeartbeats 2000000 in
theorem hexAppendDecode (B : Nat) (D : Option Addr) (nd cd : Nat) (ld : List UInt8) (A : Option Addr) (n c : Nat) (l : List UInt8) (w : World) (a : Addr) (D1 : List UInt8) (D2 : Hx.Out) (N : Nat) (hD : Hx.decode l = (D1, D2)) (hN : N = nd + D1.length)
    (hO : OB w B D nd cd ld) (h : RB w A n l) (hlow : ∀ b o, A = some ⟨b, o, none⟩ → 0 < n → b < B) (hB : B ≤ w.heap.size) (hbig : nd + n / 2 ≤ 211106232532992) (hbig2 : n ≤ 4611686018427387903) (hE : ErrAt w a) (hEB : 0 < B) :
    Calls Tryd.prog 17 #[.slice D nd cd, .slice A n c] w fun e w' => ∃ A' c', e = .returned (.tuple #[.slice A' N c', errOf a D2]) ∧ N ≤ c' ∧ c' ≤ 9223372036854775807 ∧ OB w' B A' N c' (ld ++ D1) ∧ Below B w w' := by
  have hlen := Hx.decode_len l
  rw [h.1, hD] at hlen
  have HD := Lib.hid hD
  have HO := Lib.hid hO
  have HB := Lib.hid h
  have HL := Lib.hid hlow
  have HW := Lib.hid hB
  have HE := Lib.hid hE
  obtain ⟨d, hd⟩ : ∃ d, d = D1.length := ⟨_, rfl⟩
  obtain ⟨m, hm⟩ : ∃ m : Nat, m = n / 2 := ⟨_, rfl⟩
  have hdm : d ≤ m := by rw [hd, hm]; exact hlen
  have HM := Lib.hid hm
  have Hd := Lib.hid hd
  have HN := Lib.hid hN
  have hm1 : nd + m ≤ 211106232532992 := by omega
  clear hO h hlow hB hD hlen hd hm hN hE
  go_enter Tryd.func17, Tryd.ntmps17
  go_wp2_with fail
  refine (decodedLen n m _ HM.out (by omega)).mono ?_
  rintro e w0 ⟨rfl, rfl⟩
  go_wp2_with fail
  refine (slicesGrow B nd cd m D ld _ HO.out HW.out (by omega)).mono ?_
  rintro e w1 ⟨A1, c1, rfl, hc1, hc2, hO1, hg1⟩
  have hs1 := run_from A1 nd c1 (nd : Int) (by omega) (by omega)
  have hs2 := run_to (cutA A1 c1 nd) 0 (c1 - nd) (m : Int) (by omega) (by omega)
  have p2 : IntKind.i64.wrap ((nd : Int) + (d : Int)) = (N : Int) := by rw [IntWalk.i64_in _ (by omega), HN.out, ← Hd.out]; omega
  have hs3 := run_to A1 nd c1 (N : Int) (by omega) (by rw [HN.out, ← Hd.out]; omega)
  have hNc : N ≤ c1 := by rw [HN.out, ← Hd.out]; omega
  simp only [Int.toNat_natCast, Nat.sub_self] at hs1 hs2 hs3
  have HE1 : Hid (Below B w w1) := below_none' hg1 HW.out
  have HO1 := Lib.hid hO1
  have HW1 : Hid (B ≤ w1.heap.size) := Nat.le_trans HW.out hg1.size
  have HR := Lib.hid (HB.out.grown hg1 (fun _ _ _ e => by cases e))
  have HEr := Lib.hid (HE.out.below (below_none' hg1 (Nat.le_refl _)))
  clear hO1 hg1
  by_cases hm0 : m = 0
  · subst hm0
    have hn1 : n ≤ 1 := by have := HM.out; omega
    generalize cutA A1 c1 nd = X at hs1 hs2
    go_wp2_with fail
    have hc := hexDecode1 X 0 (c1 - nd) A n c l _ a HR.out hn1 HEr.out
    rw [HD.out] at hc
    refine hc.mono ?_
    rintro e w2 ⟨rfl, hnil, hg2⟩
    have hE2 : Hid (Below B w w2) := HE1.out.trans (below_none' hg2 HW1.out)
    have HO2 := Lib.hid (HO1.out.kept hg2 (fun _ _ _ e => by cases e))
    simp only at hnil
    subst hnil
    obtain rfl : d = 0 := by rw [Hd.out]; rfl
    have hNN : N = nd := by rw [HN.out]; simp
    subst hNN
    clear hg2 hc
    go_wp2_with fail
    go_ret2
    exact ⟨A1, c1, rfl, hNc, hc2, by simpa using HO2.out, hE2.out⟩
  · rcases HO1.out.cases_ with ⟨rfl, rfl, rfl, rfl⟩ | ⟨g, f, rfl, hg, hn1, hc3, hrow, hf⟩
    · omega
    have hcut : cutA (some ⟨g, 0, none⟩) c1 nd = some ⟨g, nd, none⟩ := by
      unfold cutA
      rw [if_neg (by omega)]
      simp only [Option.map_some, Option.some.injEq]
      unfold Addr.add
      split
      · rename_i h0; subst h0; rfl
      · simp
    rw [hcut] at hs1 hs2
    have HRow := Lib.hid hrow
    have HF := Lib.hid hf
    clear hrow hf hcut
    go_wp2_with fail
    have hc := hexDecode 5 g nd m (c1 - nd) c1 f A n c l _ a HR.out HRow.out (by omega) (by have := HM.out; omega) (fun hn b o e => by
      have := HL.out b o e hn
      omega) (by omega) HEr.out (by omega)
    rw [HD.out] at hc
    refine hc.mono ?_
    rintro e w2 ⟨rfl, hrow', hgrow⟩
    have hld := HO1.out.1
    have hO2 := OB.ofRow_ (B := B) (n := N) (l := ld ++ D1) (by rw [List.length_append, hld, HN.out]) hg hNc hc3 hrow' (by
      have := dec_read (pre := D1) (od := nd) HF.out (by omega)
      rw [List.take_of_length_le (by omega), List.drop_of_length_le (by omega), List.append_nil] at this
      exact this)
    have HO2 := Lib.hid hO2
    have HE2 : Hid (Below B w w2) := HE1.out.grown hgrow HW1.out (fun k hk => by cases hk; exact hg)
    clear hO2 hrow' hgrow hld hc
    rw [← Hd.out]
    go_wp2_with fail
    go_ret2
    exact ⟨some ⟨g, 0, none⟩, c1, rfl, hNc, hc2, HO2.out, HE2.out⟩

set_option maxHeartbeats 2000000 in
theorem implAppendDecode (D : Option Addr) (nd cd : Nat) (ld : List UInt8) (A : Option Addr) (n c : Nat) (l : List UInt8) (w : World) (a : Addr) (hD : RB w D nd ld) (h : RB w A n l) (hbig : nd + n / 2 ≤ 211106232532992) (hbig2 : n ≤ 4611686018427387903) (hE : ErrAt w a) :
    Calls Tryd.prog 10 #[.slice D nd cd, .slice A n c] w fun e w' => ∃ A' N c' b0 b1 b2, e = .returned (.tuple #[.slice A' N c', .agg #[.bool b0, .bool b1, .int .u8 b2]]) ∧ Hid (N = nd + (Hx.decode l).1.length) ∧ N ≤ c' ∧ c' ≤ 9223372036854775807 ∧
      Hid (RB w' A' N (ld ++ (Hx.decode l).1)) ∧ Hid ((Hx.decode l).1.length ≤ n / 2) ∧ Hid (b0 = Hex.bad (Hx.decode l).2) ∧ Hid (b1 = Hex.wrong (Hx.decode l).2) ∧ Hid (b2 = ((Hex.byteOf (Hx.decode l).2).toNat : Int)) ∧ Below w.heap.size w w' := by
  have HD := Lib.hid hD
  have HB := Lib.hid h
  have HE := Lib.hid hE
  have hdl0 := Hx.decode_len l
  rw [h.1] at hdl0
  generalize hD0 : Hx.decode l = R at hdl0 ⊢
  obtain ⟨D1, D2⟩ := R
  have hDD := Lib.hid hD0
  have hdl := Lib.hid hdl0
  have hgl : 0 < w.heap.size := World.block_lt_of_cell? w ⟨0, 0, none⟩ hE.1
  obtain ⟨b0, b1, b2, hf⟩ : ∃ b0 b1 b2, faultV D2 = .agg #[.bool b0, .bool b1, .int .u8 b2] := ⟨_, _, _, rfl⟩
  have HF := Lib.hid hf
  have HF3 : Hid (b0 = Hex.bad D2 ∧ b1 = Hex.wrong D2 ∧ b2 = ((Hex.byteOf D2).toNat : Int)) := by
    unfold faultV at hf
    simp at hf
    exact ⟨hf.1.symm, hf.2.1.symm, hf.2.2.symm⟩
  clear hD h hE hD0 hdl0 hf
  go_enter Tryd.func10, Tryd.ntmps10
  go_wp2_with fail
  have hB1 := Lib.hid ((Below.refl _ w).alloc (Nat.le_refl _) (.cells #[.bool false, .bool false, .int .u8 0] 24))
  refine (bytesClone D nd cd ld _ (HD.out.alloc _) (by omega)).mono ?_
  rintro e w2 ⟨A1, c1, rfl, hO, hb2⟩
  simp only [World.size_alloc] at hO hb2
  have HO := Lib.hid hO
  obtain ⟨N, hN⟩ : ∃ N, N = nd + D1.length := ⟨_, rfl⟩
  have HN := Lib.hid hN
  clear hN
  have hsz : w.heap.size < w2.heap.size := by have := hb2.size; simp at this; omega
  have hB2 := Lib.hid (hB1.out.trans (hb2.mono (by omega)))
  have q0 : ∀ i v, (w.alloc (.cells #[.bool false, .bool false, .int .u8 0] 24)).cell? ⟨w.heap.size, i, none⟩ = some v → w2.cell? ⟨w.heap.size, i, none⟩ = some v := fun i v h => (hb2.cell (p := ⟨w.heap.size, i, none⟩) (by simp)).trans h
  have f0 : ∀ i, w2.frozen? ⟨w.heap.size, i, none⟩ = false := fun i => (hb2.frozen (p := ⟨w.heap.size, i, none⟩) (by simp)).trans (by simp [go_sem])
  have c0 := q0 0 (.bool false) (by simp [go_sem])
  have c1' := q0 1 (.bool false) (by simp [go_sem])
  have c2 := q0 2 (.int .u8 0) (by simp [go_sem])
  have HR2 := Lib.hid (HB.out.below hB2.out)
  have HE2 := Lib.hid (HE.out.below hB2.out)
  clear q0 hO hb2
  go_wp2_with fail
  have hc := hexAppendDecode (w.heap.size + 1) A1 nd c1 ld A n c l _ a D1 D2 N hDD.out HN.out HO.out HR2.out (fun b o e hn => by
      obtain ⟨b', o', e', hb', _⟩ := HB.out.2 hn
      rw [e] at e'
      injection e' with e'
      injection e' with e1
      omega) (by omega) hbig hbig2 HE2.out (by omega)
  refine hc.mono ?_
  rintro e w3 ⟨A3, c3, rfl, hN3, hc3, hO3, hb3⟩
  have hAb : ∀ b o, A3 = some ⟨b, o, none⟩ → b ≠ w.heap.size := fun b o e => by
    have := (hO3.block b o e).1
    omega
  have hB3 : Hid (Below w.heap.size w w3) := hB2.out.trans (hb3.mono (by omega))
  have hsz3 : w.heap.size < w3.heap.size := Nat.lt_of_lt_of_le hsz hb3.size
  have g0 := (hb3.cell (p := ⟨w.heap.size, 0, none⟩) (by simp)).trans c0
  have g1 := (hb3.cell (p := ⟨w.heap.size, 1, none⟩) (by simp)).trans c1'
  have g2 := (hb3.cell (p := ⟨w.heap.size, 2, none⟩) (by simp)).trans c2
  have gf : ∀ i, w3.frozen? ⟨w.heap.size, i, none⟩ = false := fun i => (hb3.frozen (p := ⟨w.heap.size, i, none⟩) (by simp)).trans (f0 i)
  have HO3 := Lib.hid hO3
  clear hO3 hb3 hc c0 c1' c2 f0
  go_wp2_with fail
  refine (fault_any a D2 _).mono ?_
  rintro e w4 ⟨rfl, hb4⟩
  rw [HF.out]
  have k0 := (hb4.cell (p := ⟨w.heap.size, 0, none⟩) hsz3).trans g0
  have k1 := (hb4.cell (p := ⟨w.heap.size, 1, none⟩) hsz3).trans g1
  have k2 := (hb4.cell (p := ⟨w.heap.size, 2, none⟩) hsz3).trans g2
  have kf : ∀ i, w4.frozen? ⟨w.heap.size, i, none⟩ = false := fun i => (hb4.frozen (p := ⟨w.heap.size, i, none⟩) hsz3).trans (gf i)
  have HB4 := Lib.hid hb4
  clear g0 g1 g2 gf hb4
  go_wp2_with fail
  have HR4 := Lib.hid (HO3.out.below HB4.out)
  refine bodyPost_ret (v := .tuple #[.slice A3 N c3, .agg #[.bool b0, .bool b1, .int .u8 b2]]) (by simp [results, Tryd.results10, go_sem, k0, k1, k2]) rfl ⟨A3, N, c3, b0, b1, b2, rfl, HN, hN3, hc3, ?_, hdl, HF3.out.1, HF3.out.2.1, HF3.out.2.2, ?_⟩
  · exact ((HR4.out.rb.setOther hAb _).setOther hAb _).setOther hAb _
  · have hB4 := hB3.out.trans (HB4.out.mono hB3.out.size)
    exact ((hB4.setCell (Nat.le_refl _) _).setCell (Nat.le_refl _) _).setCell (Nat.le_refl _) _

end Go.Proofs.YtgkpekdgdiphdaaDoor
