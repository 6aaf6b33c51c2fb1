/-
  Contract of the reference: spec.Dump.
-/
import Derived.Test.YtkhoifaakidfcaaSpecDump
namespace Go.Proofs.Ytkhoifaakidfcaa
open Go.RowKit Go.Lib
set_option linter.unusedVariables false
attribute [local go_sem ↓] Go.wp_at_zero Go.wp_at_succ

theorem Dm.dump_full (a : List UInt8) : Dm.dumpL a = Dm.full a ((a.length + 15) / 16) := by
  unfold Dm.dumpL
  by_cases h : a.length % 16 = 0
  · rw [if_pos h, List.append_nil, show (a.length + 15) / 16 = a.length / 16 by omega]
  · rw [if_neg h, show (a.length + 15) / 16 = a.length / 16 + 1 by omega, Dm.full_succ, Dm.cur_chunk]

set_option maxHeartbeats 2000000 in
set_option maxRecDepth 100000 in
theorem specDump (A : Option Addr) (n c : Nat) (l : List UInt8) (w : World) (h : RB w A n l) (hc : n ≤ c) (hbig : n ≤ 1000000000) :
    Calls Try.prog 17 #[.slice A n c] w fun e w' => ∃ L A' c', e = .returned (.slice A' L c') ∧ OB w' w.heap.size A' L c' (Dm.dumpL l) ∧ Below w.heap.size w w' := by
  have HR := Lib.hid h
  have HL : Hid (l.length = n) := h.1
  clear h
  go_enter Try.func17, Try.ntmps17
  go_wp2_with fail
  go_loopw [3, 4] (fun v i wr => ∃ (k q L : Nat) (X : Option Addr) (d : Nat), k < n + 16 ∧ L ≤ 200 * k ∧ v = .slice X L d ∧ i = .int .i64 k ∧ Hid (k = 16 * q) ∧ Hid (OB wr w.heap.size X L d (Dm.full l q)) ∧ Hid (Below w.heap.size w wr)) (fun _ i _ => n + 16 - (RowKit.intOf i).toNat)
  case atStart => exact ⟨0, 0, 0, _, _, by omega, by omega, rfl, rfl, rfl, OB.made w _ (Nat.le_refl _) #[] (by simp), (Below.refl _ w).alloc (Nat.le_refl _) _⟩
  case round =>
    obtain ⟨k, q, L, X, d, hk, hLk, rfl, rfl, hkq, ho, hb⟩ := hrel
    have hsz : w.heap.size ≤ wr.heap.size := hb.out.size
    by_cases hlt : k < n
    · by_cases h16 : n ≤ k + 16
      · have hmin : (n : Int) ≤ (k : Int) + 16 := by omega
        have HRm : Hid (RB wr (Option.map (fun x => x.add k) A) (n - k) (Dm.chunk l q)) := by
          have h1 := (HR.out.below hb.out).from_ (k := k) (c := c) (by omega) hc
          unfold cutA at h1
          rw [if_neg (by omega)] at h1
          have h2 := h1.to_ (k := (n - k)) (by omega)
          unfold Dm.chunk
          rw [Hid, ← hkq.out]
          rwa [show (l.drop k).take (n - k) = (l.drop k).take 16 by rw [List.take_of_length_le (by rw [List.length_drop, HL.out]; omega), List.take_of_length_le (by rw [List.length_drop, HL.out]; omega)]] at h2
        go_wp2_with fail
        refine (specLine k _ _ _ (Dm.chunk l q) _ (by omega) HRm.out (by omega)).mono ?_
        rintro e w1 ⟨L1, A1, c1, rfl, ho1, hL1, hb1⟩
        have HO1 := Lib.hid ho1.rb
        have HOw : Hid (OB w1 w.heap.size X L d (Dm.full l q)) := ho.out.below hb1
        have HB1 := Lib.hid (hb.out.trans (hb1.mono hb.out.size))
        have hsz1 : w.heap.size ≤ w1.heap.size := HB1.out.size
        clear ho1 hb1 HRm
        go_wp2_with (at_builtin; refine wpList_appB rfl (.tmp 12) (.tmp 22) rfl w.heap.size L d X _ rfl HOw.out A1 L1 c1 _ rfl HO1.out (by omega) hsz1 ?_; intro A2 c2 w2 hown1 hg1 hat1; refine Hid.out ?_)
        refine Lib.hid ?_
        have HB2 : Hid (Below w.heap.size w w2) := HOw.out.grows HB1.out hg1 (Nat.le_refl _) hsz1
        have HO2 : Hid (OB w2 w.heap.size A2 (L + L1) c2 (Dm.full l (q + 1))) := by
          rw [Hid, Dm.full_succ, ← hkq.out]
          exact hown1
        clear hown1 hg1 hat1
        go_wp2_with fail
        go_roundw
        case rel => exact ⟨k + 16, q + 1, L + L1, A2, c2, by omega, by omega, rfl, by go_num, by have := hkq.out; simp only [Hid]; omega, HO2, HB2⟩
        case measure => simp [RowKit.intOf]; omega
      · have hmin : (k : Int) + 16 < (n : Int) := by omega
        have HRm : Hid (RB wr (Option.map (fun x => x.add k) A) 16 (Dm.chunk l q)) := by
          have h1 := (HR.out.below hb.out).from_ (k := k) (c := c) (by omega) hc
          unfold cutA at h1
          rw [if_neg (by omega)] at h1
          have h2 := h1.to_ (k := 16) (by omega)
          unfold Dm.chunk
          rw [Hid, ← hkq.out]
          exact h2
        go_wp2_with fail
        refine (specLine k _ _ _ (Dm.chunk l q) _ (by omega) HRm.out (by omega)).mono ?_
        rintro e w1 ⟨L1, A1, c1, rfl, ho1, hL1, hb1⟩
        have HO1 := Lib.hid ho1.rb
        have HOw : Hid (OB w1 w.heap.size X L d (Dm.full l q)) := ho.out.below hb1
        have HB1 := Lib.hid (hb.out.trans (hb1.mono hb.out.size))
        have hsz1 : w.heap.size ≤ w1.heap.size := HB1.out.size
        clear ho1 hb1 HRm
        go_wp2_with (at_builtin; refine wpList_appB rfl (.tmp 12) (.tmp 22) rfl w.heap.size L d X _ rfl HOw.out A1 L1 c1 _ rfl HO1.out (by omega) hsz1 ?_; intro A2 c2 w2 hown1 hg1 hat1; refine Hid.out ?_)
        refine Lib.hid ?_
        have HB2 : Hid (Below w.heap.size w w2) := HOw.out.grows HB1.out hg1 (Nat.le_refl _) hsz1
        have HO2 : Hid (OB w2 w.heap.size A2 (L + L1) c2 (Dm.full l (q + 1))) := by
          rw [Hid, Dm.full_succ, ← hkq.out]
          exact hown1
        clear hown1 hg1 hat1
        go_wp2_with fail
        go_roundw
        case rel => exact ⟨k + 16, q + 1, L + L1, A2, c2, by omega, by omega, rfl, by go_num, by have := hkq.out; simp only [Hid]; omega, HO2, HB2⟩
        case measure => simp [RowKit.intOf]; omega
    · have hq : q = (l.length + 15) / 16 := by have := hkq.out; rw [HL.out]; omega
      rw [hq, ← Dm.dump_full] at ho
      clear hq
      go_wp2_with fail
      go_ret
      exact ⟨L, X, d, rfl, ho.out, hb.out⟩
end Go.Proofs.Ytkhoifaakidfcaa
