/-
  Contract: encoding/hex's encoder, its Write, over a sink; the thin package's EncodeParts.
-/
import Derived.Test.YtjappdmaeppcfaaSink
import Derived.Test.YtjappdmaeppcfaaCut
import Derived.Test.YtjappdmaeppcfaaParts
import Derived.Deep.DrawnRows
namespace Go.Proofs.Ytjappdmaeppcfaa
open Go.RowKit Go.Lib
set_option linter.unusedVariables false
attribute [local go_sem ↓] Go.wp_at_zero Go.wp_at_succ

/-- Block d is an encoder that writes to the sink at block b, without an error so far. -/
def Enc (w : World) (d T b : Nat) : Prop := ∃ f, w.rowIs d 55 1026 f ∧ f 0 = .iface T (.pointer (some ⟨b, 0, none⟩)) ∧ f 1 = .nilIface

theorem sliced_row {w : World} {d T N od n : Nat} {f : Nat → Value} {l : List UInt8} (hl : l.length = n) (h : w.rowIs d T N f) (hf : ∀ i c, l[i]? = some c → f (od + i) = .int .u8 (c.toNat : Int)) (hN : od + n ≤ N) : RB w (some ⟨d, od, none⟩) n l :=
  ⟨hl, fun hn => ⟨d, od, rfl, h.lt, fun i c hi => by
    have hi' := (List.getElem?_eq_some_iff.1 hi).1
    rw [h.cell (by omega), hf i c hi]⟩⟩

theorem row_at (f : Nat → Value) (od : Nat) (l : List UInt8) (k i : Nat) (c : UInt8) (hk : l.length = k) (hi : (Hx.encode l)[i]? = some c) : Hx.row f od l k (od + i) = .int .u8 (c.toNat : Int) := by
  have hi' := (List.getElem?_eq_some_iff.1 hi).1
  rw [Hx.encode_length, hk] at hi'
  unfold Hx.row
  rw [if_pos ⟨by omega, by omega⟩, Nat.add_sub_cancel_left, hi]
  rfl

theorem row_low (f : Nat → Value) (od : Nat) (l : List UInt8) (k j : Nat) (h : j < od) : Hx.row f od l k j = f j := by
  unfold Hx.row
  rw [if_neg (by omega)]

theorem run_out (d : Nat) (k : Int) (h0 : 0 ≤ k) (h1 : k ≤ 1024) (w : World) :
    (Instr.sliceAt 53 (.pointer (some ⟨d, 2, none⟩)) none (some (.int .i64 k)) none).run Try.prog w = .ok (.slice (some ⟨d, 2, none⟩) k.toNat 1024) w := by
  have ea : Try.prog.arrayLen 53 = 1024 := by kernel_rfl
  have es : (sizeOf (Try.prog.elem 53)).run Try.prog w = .ok 1 w := by kernel_rfl
  rw [run_sliceAt_array_h (P := Try.prog) w 53 ⟨d, 2, none⟩ (by kernel_rfl) .i64 k h0 (by rw [ea]; omega), es, ea]
  simp [slicedAt, Addr.add]

set_option maxHeartbeats 1000000 in
set_option maxRecDepth 100000 in
theorem encWrite (T F b d : Nat) (w0 : World) (S : List UInt8 → World → Prop) (hS : IsSink T F b w0.heap.size S) (hd : w0.heap.size ≤ d) (hdb : d ≠ b)
    (A : Option Addr) (n c : Nat) (l acc : List UInt8) (w : World) (h : RB w0 A n l) (hc : n ≤ c) (hcm : c ≤ 9223372036854775807) (hb : Below w0.heap.size w0 w) (hs : S acc w) (he : Enc w d T b) (hbig : acc.length + 2 * n ≤ 140737488355328) :
    Calls Try.prog 43 #[.pointer (some ⟨d, 0, none⟩), .slice A n c] w fun e w' => e = .returned (.tuple #[.int .i64 n, .nilIface]) ∧ S (acc ++ Hx.encode l) w' ∧ Enc w' d T b ∧ Below w0.heap.size w0 w' := by
  have HR0 := Lib.hid h
  have HL : Hid (l.length = n) := h.1
  have HBe := Lib.hid hb
  have HS0 := Lib.hid hs
  have HE0 := Lib.hid he
  have HM := hS.meth
  have HEn := hS.ent
  have HSK := Lib.hid hS
  clear h hb hs he hS
  go_enter Try.func43, Try.ntmps43
  go_wp2_with fail
  go_loopw [1, 4] (fun vp vn wr => ∃ (j m c' : Nat) (A' : Option Addr), vp = .slice A' m c' ∧ vn = .int .i64 j ∧ m ≤ c' ∧ c' ≤ 9223372036854775807 ∧ Hid (j + m = n) ∧ Hid (RB w0 A' m (l.drop j)) ∧ Hid (S (acc ++ Hx.encode (l.take j)) wr) ∧ Hid (Enc wr d T b) ∧ Hid (Below w0.heap.size w0 wr)) (fun vp _ _ => match vp with | .slice _ m _ => m | _ => 0)
  case atStart => exact ⟨0, n, c, A, rfl, rfl, hc, hcm, by simp [Hid], by simpa [Hid] using HR0.out, by simpa [Hid, Hx.encode] using HS0.out, HE0.out, HBe.out⟩
  case round =>
    obtain ⟨j, m, c', A', rfl, rfl, hmc, hcm', hjm, hR, hSr, hE, hB⟩ := hrel
    obtain ⟨f, hrow, hf0, hf1⟩ := hE.out
    have c1 : wr.cell? ⟨d, 1, none⟩ = some .nilIface := by rw [hrow.cell (by omega), hf1]
    have c0 : wr.cell? ⟨d, 0, none⟩ = some (.iface T (.pointer (some ⟨b, 0, none⟩))) := by rw [hrow.cell (by omega), hf0]
    have HRow := Lib.hid hrow
    have HF0 := Lib.hid hf0
    have HF1 := Lib.hid hf1
    clear hrow hf0 hf1
    by_cases hm : 0 < m
    · by_cases hk : m < 512
      · -- the rest is one chunk
        have hkm : m ≤ m := by omega
        have HRk : Hid (RB wr A' m ((l.drop j).take m)) := (hR.out.below hB.out).to_ hkm
        have HLk : Hid (((l.drop j).take m).length = m) := HRk.out.1
        have hto := fun w => run_to A' m c' (m : Int) (by omega) (by omega) w
        have hfr := fun w => run_from A' m c' (m : Int) (by omega) (by omega) w
        have hne : Hid (0 < m → ∀ bb oo, A' = some ⟨bb, oo, none⟩ → d ≠ bb) := fun hn bb oo e => by
          obtain ⟨b', o', e', hb', _⟩ := hR.out.2 (by omega)
          rw [e] at e'
          injection e' with e'
          injection e' with e1
          omega
        go_wp2_with fail
        go_region_with (go_at_call 19; (refine (hexEncode 55 d 2 1024 1024 1026 f A' m c' ((l.drop j).take m) _ HRk.out.drew HRow.out.drew (by omega) (by omega) hne.out (by omega)).mono ?_; rintro e w1 ⟨rfl, hrow1, hgr1⟩))
        have c0w : w1.cell? ⟨d, 0, none⟩ = some (.iface T (.pointer (some ⟨b, 0, none⟩))) := by rw [hrow1.cell (by omega), row_low _ _ _ _ _ (by omega), HF0.out]
        have hgr2 := grown_of_drew hgr1
        have HS1 : Hid (S (acc ++ Hx.encode (l.take j)) w1) := HSK.out.keep _ d wr w1 hSr.out hgr2 hdb (rowIs_not HRow.out (by decide))
        have HB1 : Hid (Below w0.heap.size w0 w1) := hB.out.grown hgr2 hB.out.size (fun k hk => by cases hk; exact hd)
        have HRow1 := Lib.hid hrow1
        have HO : Hid (RB w1 (some ⟨d, 2, none⟩) (2 * m) (Hx.encode ((l.drop j).take m))) := sliced_row (by rw [Hx.encode_length, HLk.out]) hrow1 (fun i c hi => row_at _ _ _ _ _ _ HLk.out hi) (by omega)
        have HX : Hid (acc ++ Hx.encode (l.take (j + m)) = acc ++ Hx.encode (l.take j) ++ Hx.encode ((l.drop j).take m)) := by rw [Hid, List.append_assoc, ← Hex.encode_append, List.take_add]
        have hlen : (acc ++ Hx.encode (l.take j)).length + 2 * m ≤ 140737488355328 := by
          have := hjm.out
          rw [List.length_append, Hx.encode_length, List.length_take]
          omega
        have hjn : j + m ≤ n := by have := hjm.out; omega
        have hsz1 : w0.heap.size ≤ w1.heap.size := HB1.out.size
        have hsl : ∀ w, _ := fun w => run_out d ((m : Int) * 2) (by omega) (by omega) w
        have ek : ((m : Int) * 2).toNat = 2 * m := by omega
        rw [ek] at hsl
        clear hrow1 hgr1 hgr2 c0 c1
        go_wp2_with fail
        have HS1' : Hid (S (acc ++ Hx.encode (l.take j)) w1.drew) := HSK.out.drew _ _ HS1.out
        have HO' : Hid (RB w1.drew (some ⟨d, 2, none⟩) (2 * m) (Hx.encode ((l.drop j).take m))) := HO.out.drew
        go_region_with (go_at_fn F; (refine (HSK.out.write _ _ d 2 (2 * m) 1024 _ HS1'.out hsz1 HO'.out hdb (rowIs_not HRow1.out.drew (by decide)) hlen).mono ?_; rintro e w2 ⟨rfl, hs2, hb2, hk2⟩; have hrow2 := rowIs_kept HRow1.out.drew (by decide) hk2 hdb; have c1x : w2.cell? ⟨d, 1, none⟩ = some .nilIface := (by rw [hrow2.cell (by omega), row_low _ _ _ _ _ (by omega), HF1.out]); have f1x : w2.frozen? ⟨d, 1, none⟩ = false := hrow2.frozen _; have HS2 := Lib.hid hs2; have HB2 := Lib.hid hb2; have HRow2 := Lib.hid hrow2; clear hs2 hb2 hk2 hrow2))
        have hg3 := Lib.grownBy_setCell w2 d 1 .nilIface
        have HS3 : Hid (S (acc ++ Hx.encode (l.take (j + m))) (w2.setCell ⟨d, 1, none⟩ .nilIface)) := by
          rw [Hid, HX.out]
          exact HSK.out.keep _ d w2 _ HS2.out hg3 hdb (rowIs_not HRow2.out (by decide))
        have HE3 : Hid (Enc (w2.setCell ⟨d, 1, none⟩ .nilIface) d T b) := ⟨_, HRow2.out.set 1 .nilIface, by rw [if_neg (by omega), row_low _ _ _ _ _ (by omega), HF0.out], by rw [if_pos rfl]⟩
        have HB3 : Hid (Below w0.heap.size w0 (w2.setCell ⟨d, 1, none⟩ .nilIface)) := (HB1.out.drew.trans HB2.out).setCell (p := ⟨d, 1, none⟩) hd _
        have HR3 : Hid (RB w0 (cutA A' c' m) (m - m) (l.drop (j + m))) := by
          have := hR.out.from_ hkm hmc
          rwa [List.drop_drop] at this
        clear hg3 c0w
        go_wp2_with fail
        go_roundw
        case rel => exact ⟨j + m, m - m, c' - m, cutA A' c' m, by simp, by first | go_num | (congr 1; omega), by omega, by omega, by have := hjm.out; simp only [Hid]; omega, HR3, HS3, HE3, HB3⟩
        case measure => simp; omega
      · -- a chunk of 512
        have hkm : 512 ≤ m := by omega
        have HRk : Hid (RB wr A' 512 ((l.drop j).take 512)) := (hR.out.below hB.out).to_ hkm
        have HLk : Hid (((l.drop j).take 512).length = 512) := HRk.out.1
        have hto := fun w => run_to A' m c' 512 (by omega) (by omega) w
        have hfr := fun w => run_from A' m c' 512 (by omega) (by omega) w
        have hne : Hid (0 < 512 → ∀ bb oo, A' = some ⟨bb, oo, none⟩ → d ≠ bb) := fun hn bb oo e => by
          obtain ⟨b', o', e', hb', _⟩ := hR.out.2 (by omega)
          rw [e] at e'
          injection e' with e'
          injection e' with e1
          omega
        go_wp2_with fail
        go_region_with (go_at_call 19; (refine (hexEncode 55 d 2 1024 1024 1026 f A' 512 c' ((l.drop j).take 512) _ HRk.out.drew HRow.out.drew (by omega) (by omega) hne.out (by omega)).mono ?_; rintro e w1 ⟨rfl, hrow1, hgr1⟩))
        have c0w : w1.cell? ⟨d, 0, none⟩ = some (.iface T (.pointer (some ⟨b, 0, none⟩))) := by rw [hrow1.cell (by omega), row_low _ _ _ _ _ (by omega), HF0.out]
        have hgr2 := grown_of_drew hgr1
        have HS1 : Hid (S (acc ++ Hx.encode (l.take j)) w1) := HSK.out.keep _ d wr w1 hSr.out hgr2 hdb (rowIs_not HRow.out (by decide))
        have HB1 : Hid (Below w0.heap.size w0 w1) := hB.out.grown hgr2 hB.out.size (fun k hk => by cases hk; exact hd)
        have HRow1 := Lib.hid hrow1
        have HO : Hid (RB w1 (some ⟨d, 2, none⟩) (2 * 512) (Hx.encode ((l.drop j).take 512))) := sliced_row (by rw [Hx.encode_length, HLk.out]) hrow1 (fun i c hi => row_at _ _ _ _ _ _ HLk.out hi) (by omega)
        have HX : Hid (acc ++ Hx.encode (l.take (j + 512)) = acc ++ Hx.encode (l.take j) ++ Hx.encode ((l.drop j).take 512)) := by rw [Hid, List.append_assoc, ← Hex.encode_append, List.take_add]
        have hlen : (acc ++ Hx.encode (l.take j)).length + 2 * 512 ≤ 140737488355328 := by
          have := hjm.out
          rw [List.length_append, Hx.encode_length, List.length_take]
          omega
        have hjn : j + 512 ≤ n := by have := hjm.out; omega
        have hsz1 : w0.heap.size ≤ w1.heap.size := HB1.out.size
        have tt : True := trivial
        clear hrow1 hgr1 hgr2 c0 c1
        go_wp2_with fail
        have HS1' : Hid (S (acc ++ Hx.encode (l.take j)) w1.drew) := HSK.out.drew _ _ HS1.out
        have HO' : Hid (RB w1.drew (some ⟨d, 2, none⟩) 1024 (Hx.encode ((l.drop j).take 512))) := HO.out.drew
        go_region_with (go_at_fn F; (refine (HSK.out.write _ _ d 2 1024 1024 _ HS1'.out hsz1 HO'.out hdb (rowIs_not HRow1.out.drew (by decide)) hlen).mono ?_; rintro e w2 ⟨rfl, hs2, hb2, hk2⟩; have hrow2 := rowIs_kept HRow1.out.drew (by decide) hk2 hdb; have c1x : w2.cell? ⟨d, 1, none⟩ = some .nilIface := (by rw [hrow2.cell (by omega), row_low _ _ _ _ _ (by omega), HF1.out]); have f1x : w2.frozen? ⟨d, 1, none⟩ = false := hrow2.frozen _; have HS2 := Lib.hid hs2; have HB2 := Lib.hid hb2; have HRow2 := Lib.hid hrow2; clear hs2 hb2 hk2 hrow2))
        have hg3 := Lib.grownBy_setCell w2 d 1 .nilIface
        have HS3 : Hid (S (acc ++ Hx.encode (l.take (j + 512))) (w2.setCell ⟨d, 1, none⟩ .nilIface)) := by
          rw [Hid, HX.out]
          exact HSK.out.keep _ d w2 _ HS2.out hg3 hdb (rowIs_not HRow2.out (by decide))
        have HE3 : Hid (Enc (w2.setCell ⟨d, 1, none⟩ .nilIface) d T b) := ⟨_, HRow2.out.set 1 .nilIface, by rw [if_neg (by omega), row_low _ _ _ _ _ (by omega), HF0.out], by rw [if_pos rfl]⟩
        have HB3 : Hid (Below w0.heap.size w0 (w2.setCell ⟨d, 1, none⟩ .nilIface)) := (HB1.out.drew.trans HB2.out).setCell (p := ⟨d, 1, none⟩) hd _
        have HR3 : Hid (RB w0 (cutA A' c' 512) (m - 512) (l.drop (j + 512))) := by
          have := hR.out.from_ hkm hmc
          rwa [List.drop_drop] at this
        clear hg3 c0w
        go_wp2_with fail
        go_roundw
        case rel => exact ⟨j + 512, m - 512, c' - 512, cutA A' c' 512, by simp, by first | go_num | (congr 1; omega), by omega, by omega, by have := hjm.out; simp only [Hid]; omega, HR3, HS3, HE3, HB3⟩
        case measure => simp; omega
    · obtain rfl : m = 0 := by omega
      have hj : j = n := by have := hjm.out; omega
      subst hj
      have e : l.take j = l := by rw [← HL.out, List.take_length]
      rw [e] at hSr
      clear e
      go_wp2_with fail
      go_quiet (fail)
      go_wp2_with fail
      go_ret2
      exact ⟨rfl, HSK.out.drewN _ _ _ hSr.out, hE.out, below_drewN hB.out _⟩

end Go.Proofs.Ytjappdmaeppcfaa
