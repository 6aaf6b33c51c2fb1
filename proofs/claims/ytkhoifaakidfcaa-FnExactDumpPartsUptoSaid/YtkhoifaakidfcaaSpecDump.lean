/-
  Contracts of the reference: spec.Digit, spec.Address, spec.Line, spec.Dump.
-/
import Derived.Test.YtkhoifaakidfcaaAppend
import Derived.Test.YtkhoifaakidfcaaCut
import Derived.Test.YtkhoifaakidfcaaDumpPure2
import Derived.Deep.DrawnRows
namespace Go.Proofs.Ytkhoifaakidfcaa
open Go.RowKit Go.Lib
set_option linter.unusedVariables false
attribute [local go_sem ↓] Go.wp_at_zero Go.wp_at_succ

set_option maxHeartbeats 400000 in
theorem specDigit (x : Int) (h0 : 0 ≤ x) (h1 : x < 16) (w : World) : Calls Try.prog 33 #[.int .u8 x] w fun e w' => e = .returned (.int .u8 ((Hx.digit x.toNat).toNat : Int)) ∧ w = w' := by
  by_cases h : x < 10
  · have hd := Lib.hid (Hex.digit_small x.toNat (by omega))
    go_enter Try.func33, Try.ntmps33
    go_wp2
    go_ret
    exact ⟨ret_int (by rw [hd.out]; omega), rfl⟩
  · have hd := Lib.hid (Hex.digit_great x.toNat (by omega) (by omega))
    go_enter Try.func33, Try.ntmps33
    go_wp2
    go_ret
    exact ⟨ret_int (by rw [hd.out]; omega), rfl⟩

theorem specDigitL (x : Int) (h0 : 0 ≤ x) (h1 : x < 16) (w : World) : Calls Try.prog 33 #[.int .u8 x] w fun e w' => ∃ g : UInt8, e = .returned (.int .u8 (g.toNat : Int)) ∧ Hid (g = Hx.digit x.toNat) ∧ w = w' :=
  (specDigit x h0 h1 w).mono fun _ _ ⟨he, hw⟩ => ⟨_, he, rfl, hw⟩

theorem adr_list (n : Nat) : Dm.adr n = [Hx.digit (n / 268435456 % 16), Hx.digit (n / 16777216 % 16), Hx.digit (n / 1048576 % 16), Hx.digit (n / 65536 % 16), Hx.digit (n / 4096 % 16), Hx.digit (n / 256 % 16), Hx.digit (n / 16 % 16), Hx.digit (n % 16)] := by
  unfold Dm.adr Hx.encode
  simp only [List.flatMap_cons, List.flatMap_nil, UInt8.toNat_ofNat', List.cons_append, List.nil_append]
  rw [show n / 16777216 % 2 ^ 8 / 16 = n / 268435456 % 16 by omega, show n / 16777216 % 2 ^ 8 % 16 = n / 16777216 % 16 by omega, show n / 65536 % 2 ^ 8 / 16 = n / 1048576 % 16 by omega, show n / 65536 % 2 ^ 8 % 16 = n / 65536 % 16 by omega, show n / 256 % 2 ^ 8 / 16 = n / 4096 % 16 by omega, show n / 256 % 2 ^ 8 % 16 = n / 256 % 16 by omega, show n % 2 ^ 8 / 16 = n / 16 % 16 by omega, show n % 2 ^ 8 % 16 = n % 16 by omega]

set_option maxHeartbeats 4000000 in
set_option maxRecDepth 100000 in
theorem specAddress (n : Nat) (w : World) (hn : n ≤ 1099511627776) :
    Calls Try.prog 32 #[.int .i64 (n : Int)] w fun e w' => ∃ A' c', e = .returned (.slice A' 8 c') ∧ OB w' w.heap.size A' 8 c' (Dm.adr n) ∧ Below w.heap.size w w' := by
  have HAd := Lib.hid (adr_list n)
  go_enter Try.func32, Try.ntmps32
  go_wp2_with fail
  go_loopw [3, 4] (fun v i wr => ∃ (k : Nat) (X : Option Addr) (d : Nat), k ≤ 8 ∧ v = .slice X k d ∧ i = .int .i64 (7 - (k : Int)) ∧ Hid (OB wr w.heap.size X k d ((Dm.adr n).take k)) ∧ Hid (Below w.heap.size w wr)) (fun _ i _ => (1 + RowKit.intOf i).toNat)
  case atStart => exact ⟨0, _, _, Nat.zero_le _, rfl, rfl, OB.made w _ (Nat.le_refl _) #[] (by simp), (Below.refl _ w).alloc (Nat.le_refl _) _⟩
  case round =>
    obtain ⟨k, X, d, hk, rfl, rfl, ho, hb⟩ := hrel
    have hsz : w.heap.size ≤ wr.heap.size := hb.out.size
    rcases (by omega : k = 0 ∨ k = 1 ∨ k = 2 ∨ k = 3 ∨ k = 4 ∨ k = 5 ∨ k = 6 ∨ k = 7 ∨ k = 8) with rfl | rfl | rfl | rfl | rfl | rfl | rfl | rfl | rfl
    · have HT : Hid ((Dm.adr n).take 1 = (Dm.adr n).take 0 ++ [Hx.digit ((n : Int) / 268435456 % 16).toNat]) := by
        rw [Hid, HAd.out, show ((n : Int) / 268435456 % 16).toNat = n / 268435456 % 16 by omega]
        rfl
      go_wp2_with fail
      refine (specDigitL _ (by omega) (by omega) _).mono ?_
      rintro e w' ⟨g, rfl, hg, rfl⟩
      go_wp2_with (at_builtin; refine wpList_appB rfl (.tmp 10) (.tmp 18) rfl w.heap.size 0 d X _ rfl (ho.out.alloc _) (some ⟨wr.heap.size, 0, none⟩) 1 1 [g] rfl (RB.one wr g) (by omega) (by simp; omega) ?_; intro A2 d2 w1 hown1 hg1 hat1)
      have hbw1 : Hid (Below w.heap.size w w1) := (ho.out.alloc _).grows (hb.out.alloc hb.out.size _) hg1 (Nat.le_refl _) (by simp; omega)
      have HO2 : Hid (OB w1 w.heap.size A2 1 d2 ((Dm.adr n).take 1)) := by rw [Hid, HT.out, ← hg.out]; exact hown1
      clear hown1 hg1 hat1 ho hb HT hg
      go_wp2_with fail
      go_roundw
      case rel => exact ⟨1, A2, d2, by omega, rfl, by first | rfl | go_num, HO2, hbw1⟩
      case measure => simp [RowKit.intOf]
    · have HT : Hid ((Dm.adr n).take 2 = (Dm.adr n).take 1 ++ [Hx.digit ((n : Int) / 16777216 % 16).toNat]) := by
        rw [Hid, HAd.out, show ((n : Int) / 16777216 % 16).toNat = n / 16777216 % 16 by omega]
        rfl
      go_wp2_with fail
      refine (specDigitL _ (by omega) (by omega) _).mono ?_
      rintro e w' ⟨g, rfl, hg, rfl⟩
      go_wp2_with (at_builtin; refine wpList_appB rfl (.tmp 10) (.tmp 18) rfl w.heap.size 1 d X _ rfl (ho.out.alloc _) (some ⟨wr.heap.size, 0, none⟩) 1 1 [g] rfl (RB.one wr g) (by omega) (by simp; omega) ?_; intro A2 d2 w1 hown1 hg1 hat1)
      have hbw1 : Hid (Below w.heap.size w w1) := (ho.out.alloc _).grows (hb.out.alloc hb.out.size _) hg1 (Nat.le_refl _) (by simp; omega)
      have HO2 : Hid (OB w1 w.heap.size A2 2 d2 ((Dm.adr n).take 2)) := by rw [Hid, HT.out, ← hg.out]; exact hown1
      clear hown1 hg1 hat1 ho hb HT hg
      go_wp2_with fail
      go_roundw
      case rel => exact ⟨2, A2, d2, by omega, rfl, by first | rfl | go_num, HO2, hbw1⟩
      case measure => simp [RowKit.intOf]
    · have HT : Hid ((Dm.adr n).take 3 = (Dm.adr n).take 2 ++ [Hx.digit ((n : Int) / 1048576 % 16).toNat]) := by
        rw [Hid, HAd.out, show ((n : Int) / 1048576 % 16).toNat = n / 1048576 % 16 by omega]
        rfl
      go_wp2_with fail
      refine (specDigitL _ (by omega) (by omega) _).mono ?_
      rintro e w' ⟨g, rfl, hg, rfl⟩
      go_wp2_with (at_builtin; refine wpList_appB rfl (.tmp 10) (.tmp 18) rfl w.heap.size 2 d X _ rfl (ho.out.alloc _) (some ⟨wr.heap.size, 0, none⟩) 1 1 [g] rfl (RB.one wr g) (by omega) (by simp; omega) ?_; intro A2 d2 w1 hown1 hg1 hat1)
      have hbw1 : Hid (Below w.heap.size w w1) := (ho.out.alloc _).grows (hb.out.alloc hb.out.size _) hg1 (Nat.le_refl _) (by simp; omega)
      have HO2 : Hid (OB w1 w.heap.size A2 3 d2 ((Dm.adr n).take 3)) := by rw [Hid, HT.out, ← hg.out]; exact hown1
      clear hown1 hg1 hat1 ho hb HT hg
      go_wp2_with fail
      go_roundw
      case rel => exact ⟨3, A2, d2, by omega, rfl, by first | rfl | go_num, HO2, hbw1⟩
      case measure => simp [RowKit.intOf]
    · have HT : Hid ((Dm.adr n).take 4 = (Dm.adr n).take 3 ++ [Hx.digit ((n : Int) / 65536 % 16).toNat]) := by
        rw [Hid, HAd.out, show ((n : Int) / 65536 % 16).toNat = n / 65536 % 16 by omega]
        rfl
      go_wp2_with fail
      refine (specDigitL _ (by omega) (by omega) _).mono ?_
      rintro e w' ⟨g, rfl, hg, rfl⟩
      go_wp2_with (at_builtin; refine wpList_appB rfl (.tmp 10) (.tmp 18) rfl w.heap.size 3 d X _ rfl (ho.out.alloc _) (some ⟨wr.heap.size, 0, none⟩) 1 1 [g] rfl (RB.one wr g) (by omega) (by simp; omega) ?_; intro A2 d2 w1 hown1 hg1 hat1)
      have hbw1 : Hid (Below w.heap.size w w1) := (ho.out.alloc _).grows (hb.out.alloc hb.out.size _) hg1 (Nat.le_refl _) (by simp; omega)
      have HO2 : Hid (OB w1 w.heap.size A2 4 d2 ((Dm.adr n).take 4)) := by rw [Hid, HT.out, ← hg.out]; exact hown1
      clear hown1 hg1 hat1 ho hb HT hg
      go_wp2_with fail
      go_roundw
      case rel => exact ⟨4, A2, d2, by omega, rfl, by first | rfl | go_num, HO2, hbw1⟩
      case measure => simp [RowKit.intOf]
    · have HT : Hid ((Dm.adr n).take 5 = (Dm.adr n).take 4 ++ [Hx.digit ((n : Int) / 4096 % 16).toNat]) := by
        rw [Hid, HAd.out, show ((n : Int) / 4096 % 16).toNat = n / 4096 % 16 by omega]
        rfl
      go_wp2_with fail
      refine (specDigitL _ (by omega) (by omega) _).mono ?_
      rintro e w' ⟨g, rfl, hg, rfl⟩
      go_wp2_with (at_builtin; refine wpList_appB rfl (.tmp 10) (.tmp 18) rfl w.heap.size 4 d X _ rfl (ho.out.alloc _) (some ⟨wr.heap.size, 0, none⟩) 1 1 [g] rfl (RB.one wr g) (by omega) (by simp; omega) ?_; intro A2 d2 w1 hown1 hg1 hat1)
      have hbw1 : Hid (Below w.heap.size w w1) := (ho.out.alloc _).grows (hb.out.alloc hb.out.size _) hg1 (Nat.le_refl _) (by simp; omega)
      have HO2 : Hid (OB w1 w.heap.size A2 5 d2 ((Dm.adr n).take 5)) := by rw [Hid, HT.out, ← hg.out]; exact hown1
      clear hown1 hg1 hat1 ho hb HT hg
      go_wp2_with fail
      go_roundw
      case rel => exact ⟨5, A2, d2, by omega, rfl, by first | rfl | go_num, HO2, hbw1⟩
      case measure => simp [RowKit.intOf]
    · have HT : Hid ((Dm.adr n).take 6 = (Dm.adr n).take 5 ++ [Hx.digit ((n : Int) / 256 % 16).toNat]) := by
        rw [Hid, HAd.out, show ((n : Int) / 256 % 16).toNat = n / 256 % 16 by omega]
        rfl
      go_wp2_with fail
      refine (specDigitL _ (by omega) (by omega) _).mono ?_
      rintro e w' ⟨g, rfl, hg, rfl⟩
      go_wp2_with (at_builtin; refine wpList_appB rfl (.tmp 10) (.tmp 18) rfl w.heap.size 5 d X _ rfl (ho.out.alloc _) (some ⟨wr.heap.size, 0, none⟩) 1 1 [g] rfl (RB.one wr g) (by omega) (by simp; omega) ?_; intro A2 d2 w1 hown1 hg1 hat1)
      have hbw1 : Hid (Below w.heap.size w w1) := (ho.out.alloc _).grows (hb.out.alloc hb.out.size _) hg1 (Nat.le_refl _) (by simp; omega)
      have HO2 : Hid (OB w1 w.heap.size A2 6 d2 ((Dm.adr n).take 6)) := by rw [Hid, HT.out, ← hg.out]; exact hown1
      clear hown1 hg1 hat1 ho hb HT hg
      go_wp2_with fail
      go_roundw
      case rel => exact ⟨6, A2, d2, by omega, rfl, by first | rfl | go_num, HO2, hbw1⟩
      case measure => simp [RowKit.intOf]
    · have HT : Hid ((Dm.adr n).take 7 = (Dm.adr n).take 6 ++ [Hx.digit ((n : Int) / 16 % 16).toNat]) := by
        rw [Hid, HAd.out, show ((n : Int) / 16 % 16).toNat = n / 16 % 16 by omega]
        rfl
      go_wp2_with fail
      refine (specDigitL _ (by omega) (by omega) _).mono ?_
      rintro e w' ⟨g, rfl, hg, rfl⟩
      go_wp2_with (at_builtin; refine wpList_appB rfl (.tmp 10) (.tmp 18) rfl w.heap.size 6 d X _ rfl (ho.out.alloc _) (some ⟨wr.heap.size, 0, none⟩) 1 1 [g] rfl (RB.one wr g) (by omega) (by simp; omega) ?_; intro A2 d2 w1 hown1 hg1 hat1)
      have hbw1 : Hid (Below w.heap.size w w1) := (ho.out.alloc _).grows (hb.out.alloc hb.out.size _) hg1 (Nat.le_refl _) (by simp; omega)
      have HO2 : Hid (OB w1 w.heap.size A2 7 d2 ((Dm.adr n).take 7)) := by rw [Hid, HT.out, ← hg.out]; exact hown1
      clear hown1 hg1 hat1 ho hb HT hg
      go_wp2_with fail
      go_roundw
      case rel => exact ⟨7, A2, d2, by omega, rfl, by first | rfl | go_num, HO2, hbw1⟩
      case measure => simp [RowKit.intOf]
    · have HT : Hid ((Dm.adr n).take 8 = (Dm.adr n).take 7 ++ [Hx.digit ((n : Int) % 16).toNat]) := by
        rw [Hid, HAd.out, show ((n : Int) % 16).toNat = n % 16 by omega]
        rfl
      go_wp2_with fail
      refine (specDigitL _ (by omega) (by omega) _).mono ?_
      rintro e w' ⟨g, rfl, hg, rfl⟩
      go_wp2_with (at_builtin; refine wpList_appB rfl (.tmp 10) (.tmp 18) rfl w.heap.size 7 d X _ rfl (ho.out.alloc _) (some ⟨wr.heap.size, 0, none⟩) 1 1 [g] rfl (RB.one wr g) (by omega) (by simp; omega) ?_; intro A2 d2 w1 hown1 hg1 hat1)
      have hbw1 : Hid (Below w.heap.size w w1) := (ho.out.alloc _).grows (hb.out.alloc hb.out.size _) hg1 (Nat.le_refl _) (by simp; omega)
      have HO2 : Hid (OB w1 w.heap.size A2 8 d2 ((Dm.adr n).take 8)) := by rw [Hid, HT.out, ← hg.out]; exact hown1
      clear hown1 hg1 hat1 ho hb HT hg
      go_wp2_with fail
      go_roundw
      case rel => exact ⟨8, A2, d2, by omega, rfl, by first | rfl | go_num, HO2, hbw1⟩
      case measure => simp [RowKit.intOf]
    · have e : (Dm.adr n).take 8 = Dm.adr n := List.take_of_length_le (by rw [Dm.adr_len]; omega)
      rw [e] at ho
      clear e
      go_wp2_with fail
      go_ret
      exact ⟨X, d, rfl, ho.out, hb.out⟩

/-- LINE -/
theorem RB.three (w : World) (b d e : UInt8) : RB (w.alloc (.cells #[.int .u8 (b.toNat : Int), .int .u8 (d.toNat : Int), .int .u8 (e.toNat : Int)] 5)) (some ⟨w.heap.size, 0, none⟩) 3 [b, d, e] :=
  ⟨rfl, fun _ => ⟨w.heap.size, 0, rfl, by simp, fun i c hi => by
    match i with
    | 0 => simp at hi; subst hi; rw [cell_of_row _ _ _ _ _ (0, 0) (heap_alloc_new w _)]; rfl
    | 1 => simp at hi; subst hi; rw [cell_of_row _ _ _ _ _ (0, 0) (heap_alloc_new w _)]; rfl
    | 2 => simp at hi; subst hi; rw [cell_of_row _ _ _ _ _ (0, 0) (heap_alloc_new w _)]; rfl
    | i + 3 => simp at hi⟩⟩
theorem rb32 (w : World) : RB (w.alloc (.cells #[.int .u8 32] 5)) (some ⟨w.heap.size, 0, none⟩) 1 [32] := RB.one w 32
theorem rb46 (w : World) : RB (w.alloc (.cells #[.int .u8 46] 5)) (some ⟨w.heap.size, 0, none⟩) 1 [46] := RB.one w 46
theorem rbBar (w : World) : RB (w.alloc (.cells #[.int .u8 32, .int .u8 124] 5)) (some ⟨w.heap.size, 0, none⟩) 2 [32, 124] := RB.two w 32 124
theorem rbEnd (w : World) : RB (w.alloc (.cells #[.int .u8 124, .int .u8 10] 5)) (some ⟨w.heap.size, 0, none⟩) 2 [124, 10] := RB.two w 124 10
theorem rbGap (w : World) : RB (w.alloc (.cells #[.int .u8 32, .int .u8 32, .int .u8 32] 5)) (some ⟨w.heap.size, 0, none⟩) 3 [32, 32, 32] := RB.three w 32 32 32
theorem rbByte (w : World) (b d : UInt8) : RB (w.alloc (.cells #[.int .u8 (b.toNat : Int), .int .u8 (d.toNat : Int), .int .u8 32] 5)) (some ⟨w.heap.size, 0, none⟩) 3 [b, d, 32] := RB.three w b d 32

namespace Dm
def col (d : List UInt8) (j : Nat) : List UInt8 := (if j % 8 = 0 then [32] else []) ++ (if j < d.length then Hx.encode [d[j]?.getD 0] ++ [32] else [32, 32, 32])
def cols (d : List UInt8) (i : Nat) : List UInt8 := (List.range i).flatMap (col d)
theorem cols_succ (d : List UInt8) (i : Nat) : cols d (i + 1) = cols d i ++ col d i := by
  unfold cols
  rw [List.range_succ, List.flatMap_append]
  simp
theorem cols_segs (d : List UInt8) : cols d d.length = segs 0 d := by
  refine snoc_ind (P := fun d => cols d d.length = segs 0 d) rfl (fun a c ih => ?_) d
  rw [segs_snoc, List.length_append, List.length_singleton, cols_succ, ← ih, Nat.zero_add]
  congr 1
  · unfold cols
    have : ∀ i, i ≤ a.length → (List.range i).flatMap (col (a ++ [c])) = (List.range i).flatMap (col a) := by
      intro i
      induction i with
      | zero => intro _; rfl
      | succ i ih2 =>
        intro hi
        rw [List.range_succ, List.flatMap_append, List.flatMap_append, ih2 (by omega)]
        simp only [List.flatMap_cons, List.flatMap_nil, List.append_nil]
        unfold col
        rw [if_pos (show i < (a ++ [c]).length by rw [List.length_append]; omega), if_pos (show i < a.length by omega), List.getElem?_append_left (by omega)]
    exact this _ (Nat.le_refl _)
  · unfold col seg
    rw [if_pos (show a.length < (a ++ [c]).length by rw [List.length_append]; simp), List.getElem?_append_right (Nat.le_refl _)]
    simp
theorem cols_pad (d : List UInt8) (h : d.length ≤ 16) : cols d 16 = segs 0 d ++ pad d.length := by
  rw [← cols_segs]
  have key : ∀ m, cols d (d.length + m) = cols d d.length ++ (List.range m).flatMap (fun j => (if (d.length + j) % 8 = 0 then [32] else []) ++ [32, 32, 32]) := by
    intro m
    induction m with
    | zero => simp
    | succ m ih =>
      rw [show d.length + (m + 1) = d.length + m + 1 by omega, cols_succ, ih, List.range_succ, List.flatMap_append, List.append_assoc]
      congr 2
      simp only [List.flatMap_cons, List.flatMap_nil, List.append_nil]
      unfold col
      rw [if_neg (show ¬ d.length + m < d.length by omega)]
  have := key (16 - d.length)
  rw [show d.length + (16 - d.length) = 16 by omega] at this
  exact this
end Dm

set_option maxHeartbeats 8000000 in
set_option maxRecDepth 100000 in
theorem specLine (n : Nat) (A : Option Addr) (m c : Nat) (l : List UInt8) (w : World) (hn : n ≤ 1099511627776) (h : RB w A m l) (hm : m ≤ 16) :
    Calls Try.prog 25 #[.int .i64 (n : Int), .slice A m c] w fun e w' => ∃ L A' c', e = .returned (.slice A' L c') ∧ OB w' w.heap.size A' L c' (Dm.line n l) ∧ L ≤ 200 ∧ Below w.heap.size w w' := by
  have HR := Lib.hid h
  have HL : Hid (l.length = m) := h.1
  clear h
  go_enter Try.func25, Try.ntmps25
  go_wp2_with fail
  refine (specAddress n _ hn).mono ?_
  rintro e w0 ⟨A0, c0, rfl, ho0, hb0⟩
  have HO0 := Lib.hid ho0
  have HB0 := Lib.hid hb0
  have hsz0 : w.heap.size ≤ w0.heap.size := hb0.size
  clear ho0 hb0
  go_wp2_with (at_builtin; refine wpList_appB rfl (.tmp 9) (.tmp 10) rfl w.heap.size 8 c0 A0 _ rfl (HO0.out.alloc _) (some ⟨w0.heap.size, 0, none⟩) 1 1 [32] rfl (rb32 w0) (by omega) (by simp; omega) ?_; intro A1 c1 w1 hown1 hg1 hat1; refine Hid.out ?_)
  refine Lib.hid ?_
  have HB1 : Hid (Below w.heap.size w w1) := (HO0.out.alloc _).grows (HB0.out.alloc HB0.out.size _) hg1 (Nat.le_refl _) (by simp; omega)
  have HO1 : Hid (OB w1 w.heap.size A1 9 c1 (Dm.adr n ++ [32] ++ Dm.cols l 0)) := by simpa [Hid, Dm.cols] using hown1
  clear hown1 hg1 hat1
  go_wp2_with fail
  go_loopw [5, 6] (fun v i wr => ∃ (k L : Nat) (X : Option Addr) (d : Nat), k ≤ 16 ∧ L ≤ 9 + 4 * k ∧ v = .slice X L d ∧ i = .int .i64 k ∧ Hid (OB wr w.heap.size X L d (Dm.adr n ++ [32] ++ Dm.cols l k)) ∧ Hid (Below w.heap.size w wr)) (fun _ i _ => 16 - (RowKit.intOf i).toNat)
  case atStart => exact ⟨0, 9, A1, c1, by omega, by omega, rfl, rfl, HO1, HB1⟩
  case round =>
    obtain ⟨k, L, X, d, hk, hLk, rfl, rfl, ho, hb⟩ := hrel
    have hsz : w.heap.size ≤ wr.heap.size := hb.out.size
    by_cases hlt : k < 16
    · by_cases hs8 : k % 8 = 0
      · by_cases hin : k < m
        · -- a blank, a byte
          have hb8 : ((k : Int) % 8 == 0) = true := by simp; omega
          obtain ⟨bb, oo, cc, rfl, hbs, hcc, hcell⟩ := HR.out.at_ hin
          obtain ⟨x, hxk⟩ : ∃ x : Int, x = (cc.toNat : Int) := ⟨_, rfl⟩
          have hx0 : 0 ≤ x := by omega
          have hx1 : x < 256 := by have := cc.toNat_lt; omega
          have HX := Lib.hid hxk
          have HC : Hid (w.cell? ⟨bb, oo + k, none⟩ = some (.int .u8 x)) := by rw [Hid, hxk]; exact hcell
          have HCol : Hid (Dm.col l k = ([32] : List UInt8) ++ [Hx.digit (x / 16).toNat, Hx.digit (x % 16).toNat, 32]) := by
            unfold Dm.col
            rw [Hid, if_pos hs8, if_pos (by rw [HL.out]; exact hin), hcc, show (x / 16).toNat = cc.toNat / 16 by omega, show (x % 16).toNat = cc.toNat % 16 by omega]
            rfl
          clear hxk hcell hcc
          go_wp2_with (at_builtin; refine wpList_appB rfl (.tmp 19) (.tmp 20) rfl w.heap.size L d X _ rfl (ho.out.alloc _) (some ⟨wr.heap.size, 0, none⟩) 1 1 [32] rfl (rb32 wr) (by omega) (by simp; omega) ?_; intro X1 d1 wa hown1 hg1 hat1; refine Hid.out ?_)
          refine Lib.hid ?_
          have hbA : Hid (Below w.heap.size w wa) := (ho.out.alloc _).grows (hb.out.alloc hb.out.size _) hg1 (Nat.le_refl _) (by simp; omega)
          have HOA := Lib.hid hown1
          have hszA : w.heap.size ≤ wa.heap.size := hbA.out.size
          clear hown1 hg1 hat1
          have hcx : wa.cell? ⟨bb, oo + k, none⟩ = some (.int .u8 x) := (hbA.out.cell (p := ⟨bb, oo + k, none⟩) hbs).trans HC.out
          have hkeep : Hid (∀ (W W' : World) (u : Value), W.grownBy W' (X1.map (·.block)) → W.cell? ⟨bb, oo + k, none⟩ = some u → W'.cell? ⟨bb, oo + k, none⟩ = some u) := fun W W' u hg hc => hg.cell hc (fun e => by
            have h1 := HOA.out.spot
            have h2 := HOA.out.block
            cases X1 with
            | none => cases e
            | some y =>
              obtain ⟨yb, yo, ys⟩ := y
              have h3 := h1 _ rfl
              simp only at h3
              subst h3
              have h4 := (h2 yb yo rfl).1
              simp at e
              omega)
          have p1 : x.tdiv 16 = x / 16 := Int.tdiv_eq_ediv_of_nonneg hx0
          have p2 : x.tmod 16 = x % 16 := Int.tmod_eq_emod_of_nonneg hx0
          have p3 : IntKind.u8.wrap (x / 16) = x / 16 := IntWalk.u8_in _ (by omega)
          have p4 : IntKind.u8.wrap (x % 16) = x % 16 := IntWalk.u8_in _ (by omega)
          have p5 : 0 ≤ x / 16 ∧ x / 16 < 16 := by omega
          have p6 : 0 ≤ x % 16 ∧ x % 16 < 16 := by omega
          have p7 : (k : Int) < (m : Int) := by omega
          have HO1 := Lib.hid ((HOA.out.drew).alloc (.cells #[.int .u8 ((Hx.digit (x / 16).toNat).toNat : Int), .int .u8 ((Hx.digit (x % 16).toNat).toNat : Int), .int .u8 32] 5))
          have HR1 := Lib.hid (rbByte wa.drew (Hx.digit (x / 16).toNat) (Hx.digit (x % 16).toNat))
          have HSz := Lib.hid hszA
          go_wp2_with fail
          go_region_held3 (fun w' => w'.cell? ⟨bb, oo + k, none⟩ = some (.int .u8 x))
            (first
              | go_keep
              | exact hkeep.out _ _ _ hg1 (by assumption))
            (first
              | (refine step_appB (by rfl) (.tmp 26) (.tmp 39) (by rfl) w.heap.size (L + 1) d1 X1 _ (by rfl) (by exact HO1.out) (some ⟨wa.heap.size, 0, none⟩) 3 3 _ (by rfl) (by exact HR1.out) (by omega) (by simp; have := HSz.out; omega) ?_; intro A2 c2 w1 hown1 hg1 hat1)
              | (go_simp; go_at_call 33; refine (specDigit _ (by omega) (by omega) _).mono ?_; rintro e w' ⟨rfl, rfl⟩))
          have hbw1 : Hid (Below w.heap.size w w1) := HO1.out.grows ((hbA.out.drew).alloc hbA.out.size _) hg1 (Nat.le_refl _) (by simp; omega)
          have HO2 : Hid (OB w1 w.heap.size A2 ((L + 1) + 3) c2 (Dm.adr n ++ [32] ++ Dm.cols l (k + 1))) := by
            rw [Hid, Dm.cols_succ, HCol.out]
            simpa using hown1
          clear hown1 hg1 hat1 HO1 HR1 p1 p2 p3 p4 p5 p6 p7
          go_wp2_with fail
          go_roundw
          case rel => exact ⟨k + 1, (L + 1) + 3, A2, c2, by omega, by omega, rfl, by go_num, HO2, hbw1⟩
          case measure => simp [RowKit.intOf]; omega
        -- a blank, a gap
        have hb8 : ((k : Int) % 8 == 0) = true := by simp; omega
        have HCol : Hid (Dm.col l k = ([32] : List UInt8) ++ [32, 32, 32]) := by
          unfold Dm.col
          rw [Hid, if_pos hs8, if_neg (by rw [HL.out]; exact hin)]
        go_wp2_with (at_builtin; refine wpList_appB rfl (.tmp 19) (.tmp 20) rfl w.heap.size L d X _ rfl (ho.out.alloc _) (some ⟨wr.heap.size, 0, none⟩) 1 1 [32] rfl (rb32 wr) (by omega) (by simp; omega) ?_; intro X1 d1 wa hown1 hg1 hat1; refine Hid.out ?_)
        refine Lib.hid ?_
        have hbA : Hid (Below w.heap.size w wa) := (ho.out.alloc _).grows (hb.out.alloc hb.out.size _) hg1 (Nat.le_refl _) (by simp; omega)
        have HOA := Lib.hid hown1
        have hszA : w.heap.size ≤ wa.heap.size := hbA.out.size
        clear hown1 hg1 hat1
        have hkm : ¬ (k : Int) < (m : Int) := by omega
        go_wp2_with (at_builtin; refine wpList_appB rfl (.tmp 41) (.tmp 42) rfl w.heap.size (L + 1) d1 X1 _ rfl (HOA.out.alloc _) (some ⟨wa.heap.size, 0, none⟩) 3 3 [32, 32, 32] rfl (rbGap wa) (by omega) (by simp; omega) ?_; intro A2 c2 w1 hown1 hg1 hat1; refine Hid.out ?_)
        refine Lib.hid ?_
        have hbw1 : Hid (Below w.heap.size w w1) := (HOA.out.alloc _).grows (hbA.out.alloc hbA.out.size _) hg1 (Nat.le_refl _) (by simp; omega)
        have HO2 : Hid (OB w1 w.heap.size A2 ((L + 1) + 3) c2 (Dm.adr n ++ [32] ++ Dm.cols l (k + 1))) := by
          rw [Hid, Dm.cols_succ, HCol.out]
          simpa using hown1
        clear hown1 hg1 hat1
        go_wp2_with fail
        go_roundw
        case rel => exact ⟨k + 1, (L + 1) + 3, A2, c2, by omega, by omega, rfl, by go_num, HO2, hbw1⟩
        case measure => simp [RowKit.intOf]; omega
      · by_cases hin : k < m
        · -- a byte
          have hb8 : ((k : Int) % 8 == 0) = false := by simp; omega
          obtain ⟨bb, oo, cc, rfl, hbs, hcc, hcell⟩ := HR.out.at_ hin
          obtain ⟨x, hxk⟩ : ∃ x : Int, x = (cc.toNat : Int) := ⟨_, rfl⟩
          have hx0 : 0 ≤ x := by omega
          have hx1 : x < 256 := by have := cc.toNat_lt; omega
          have HX := Lib.hid hxk
          have HC : Hid (w.cell? ⟨bb, oo + k, none⟩ = some (.int .u8 x)) := by rw [Hid, hxk]; exact hcell
          have HCol : Hid (Dm.col l k = ([] : List UInt8) ++ [Hx.digit (x / 16).toNat, Hx.digit (x % 16).toNat, 32]) := by
            unfold Dm.col
            rw [Hid, if_neg hs8, if_pos (by rw [HL.out]; exact hin), hcc, show (x / 16).toNat = cc.toNat / 16 by omega, show (x % 16).toNat = cc.toNat % 16 by omega]
            rfl
          clear hxk hcell hcc
          have HOA := ho
          have hbA := hb
          have hszA := hsz
          have hcx : wr.cell? ⟨bb, oo + k, none⟩ = some (.int .u8 x) := (hbA.out.cell (p := ⟨bb, oo + k, none⟩) hbs).trans HC.out
          have hkeep : Hid (∀ (W W' : World) (u : Value), W.grownBy W' (X.map (·.block)) → W.cell? ⟨bb, oo + k, none⟩ = some u → W'.cell? ⟨bb, oo + k, none⟩ = some u) := fun W W' u hg hc => hg.cell hc (fun e => by
            have h1 := HOA.out.spot
            have h2 := HOA.out.block
            cases X with
            | none => cases e
            | some y =>
              obtain ⟨yb, yo, ys⟩ := y
              have h3 := h1 _ rfl
              simp only at h3
              subst h3
              have h4 := (h2 yb yo rfl).1
              simp at e
              omega)
          have p1 : x.tdiv 16 = x / 16 := Int.tdiv_eq_ediv_of_nonneg hx0
          have p2 : x.tmod 16 = x % 16 := Int.tmod_eq_emod_of_nonneg hx0
          have p3 : IntKind.u8.wrap (x / 16) = x / 16 := IntWalk.u8_in _ (by omega)
          have p4 : IntKind.u8.wrap (x % 16) = x % 16 := IntWalk.u8_in _ (by omega)
          have p5 : 0 ≤ x / 16 ∧ x / 16 < 16 := by omega
          have p6 : 0 ≤ x % 16 ∧ x % 16 < 16 := by omega
          have p7 : (k : Int) < (m : Int) := by omega
          have HO1 := Lib.hid ((HOA.out.drew).alloc (.cells #[.int .u8 ((Hx.digit (x / 16).toNat).toNat : Int), .int .u8 ((Hx.digit (x % 16).toNat).toNat : Int), .int .u8 32] 5))
          have HR1 := Lib.hid (rbByte wr.drew (Hx.digit (x / 16).toNat) (Hx.digit (x % 16).toNat))
          have HSz := Lib.hid hszA
          go_wp2_with fail
          go_region_held3 (fun w' => w'.cell? ⟨bb, oo + k, none⟩ = some (.int .u8 x))
            (first
              | go_keep
              | exact hkeep.out _ _ _ hg1 (by assumption))
            (first
              | (refine step_appB (by rfl) (.tmp 26) (.tmp 39) (by rfl) w.heap.size L d X _ (by rfl) (by exact HO1.out) (some ⟨wr.heap.size, 0, none⟩) 3 3 _ (by rfl) (by exact HR1.out) (by omega) (by simp; have := HSz.out; omega) ?_; intro A2 c2 w1 hown1 hg1 hat1)
              | (go_simp; go_at_call 33; refine (specDigit _ (by omega) (by omega) _).mono ?_; rintro e w' ⟨rfl, rfl⟩))
          have hbw1 : Hid (Below w.heap.size w w1) := HO1.out.grows ((hbA.out.drew).alloc hbA.out.size _) hg1 (Nat.le_refl _) (by simp; omega)
          have HO2 : Hid (OB w1 w.heap.size A2 (L + 3) c2 (Dm.adr n ++ [32] ++ Dm.cols l (k + 1))) := by
            rw [Hid, Dm.cols_succ, HCol.out]
            simpa using hown1
          clear hown1 hg1 hat1 HO1 HR1 p1 p2 p3 p4 p5 p6 p7
          go_wp2_with fail
          go_roundw
          case rel => exact ⟨k + 1, L + 3, A2, c2, by omega, by omega, rfl, by go_num, HO2, hbw1⟩
          case measure => simp [RowKit.intOf]; omega
        -- a gap
        have hb8 : ((k : Int) % 8 == 0) = false := by simp; omega
        have HCol : Hid (Dm.col l k = ([] : List UInt8) ++ [32, 32, 32]) := by
          unfold Dm.col
          rw [Hid, if_neg hs8, if_neg (by rw [HL.out]; exact hin)]
        have HOA := ho
        have hbA := hb
        have hszA := hsz
        have hkm : ¬ (k : Int) < (m : Int) := by omega
        go_wp2_with (at_builtin; refine wpList_appB rfl (.tmp 41) (.tmp 42) rfl w.heap.size L d X _ rfl (HOA.out.alloc _) (some ⟨wr.heap.size, 0, none⟩) 3 3 [32, 32, 32] rfl (rbGap wr) (by omega) (by simp; omega) ?_; intro A2 c2 w1 hown1 hg1 hat1; refine Hid.out ?_)
        refine Lib.hid ?_
        have hbw1 : Hid (Below w.heap.size w w1) := (HOA.out.alloc _).grows (hbA.out.alloc hbA.out.size _) hg1 (Nat.le_refl _) (by simp; omega)
        have HO2 : Hid (OB w1 w.heap.size A2 (L + 3) c2 (Dm.adr n ++ [32] ++ Dm.cols l (k + 1))) := by
          rw [Hid, Dm.cols_succ, HCol.out]
          simpa using hown1
        clear hown1 hg1 hat1
        go_wp2_with fail
        go_roundw
        case rel => exact ⟨k + 1, L + 3, A2, c2, by omega, by omega, rfl, by go_num, HO2, hbw1⟩
        case measure => simp [RowKit.intOf]; omega
    · obtain rfl : k = 16 := by omega
      have e16 := Dm.cols_pad l (by rw [HL.out]; exact hm)
      rw [e16] at ho
      clear e16
      go_wp2_with (at_builtin; refine wpList_appB rfl (.tmp 44) (.tmp 45) rfl w.heap.size L d X _ rfl (ho.out.alloc _) (some ⟨wr.heap.size, 0, none⟩) 2 2 [32, 124] rfl (rbBar wr) (by omega) (by simp; omega) ?_; intro X1 d1 wa hown1 hg1 hat1; refine Hid.out ?_)
      refine Lib.hid ?_
      have hbA : Hid (Below w.heap.size w wa) := (ho.out.alloc _).grows (hb.out.alloc hb.out.size _) hg1 (Nat.le_refl _) (by simp; omega)
      have HOA : Hid (OB wa w.heap.size X1 (L + 2) d1 (Dm.adr n ++ [32] ++ (Dm.segs 0 l ++ Dm.pad l.length) ++ [32, 124] ++ (l.take 0).map Dm.toCh)) := by simpa [Hid] using hown1
      clear hown1 hg1 hat1 ho hb
      go_wp2_with fail
      go_loopw [5, 7] (fun v i wr => ∃ (k L : Nat) (X : Option Addr) (d : Nat), k ≤ m ∧ L ≤ 80 + k ∧ v = .slice X L d ∧ i = .int .i64 k ∧ Hid (OB wr w.heap.size X L d (Dm.adr n ++ [32] ++ (Dm.segs 0 l ++ Dm.pad l.length) ++ [32, 124] ++ (l.take k).map Dm.toCh)) ∧ Hid (Below w.heap.size w wr)) (fun _ i _ => m - (RowKit.intOf i).toNat)
      case atStart => exact ⟨0, L + 2, X1, d1, by omega, by omega, rfl, rfl, HOA, hbA⟩
      case round =>
        clear hsz HOA hbA
        obtain ⟨k, L2, X2, d2, hk2, hLk2, rfl, rfl, ho, hb⟩ := hrel
        have hsz : w.heap.size ≤ wr.heap.size := hb.out.size
        by_cases hin : k < m
        · obtain ⟨bb, oo, cc, rfl, hbs, hcc, hcell⟩ := HR.out.at_ hin
          have HT : Hid ((l.take (k + 1)).map Dm.toCh = (l.take k).map Dm.toCh ++ [Dm.toCh cc]) := by
            obtain ⟨hk', e⟩ := List.getElem?_eq_some_iff.1 hcc
            rw [Hid, List.take_succ_eq_append_getElem hk', e]; simp
          obtain ⟨x, hxk⟩ : ∃ x : Int, (cc.toNat : Int) = x := ⟨_, rfl⟩
          have hx0 : 0 ≤ x := by omega
          have hx1 : x < 256 := by have := cc.toNat_lt; omega
          have hcx : wr.cell? ⟨bb, oo + k, none⟩ = some (.int .u8 x) := by rw [← hxk]; exact (hb.out.cell (p := ⟨bb, oo + k, none⟩) hbs).trans hcell
          have HX := Lib.hid hxk
          clear hxk hcell hcc
          by_cases h32 : 32 ≤ x ∧ x ≤ 126
          · obtain ⟨h32a, h32b⟩ := h32
            have HCh : Hid (Dm.toCh cc = cc) := by have := HX.out; unfold Dm.toCh; rw [Hid, if_neg (by omega)]
            have HRc : Hid (RB (wr.alloc (.cells #[.int .u8 x] 5)) (some ⟨wr.heap.size, 0, none⟩) 1 [cc]) := by rw [Hid, ← HX.out]; exact RB.one wr cc
            go_wp2_with (at_builtin; refine wpList_appB rfl (.tmp 65) (.tmp 70) rfl w.heap.size L2 d2 X2 _ rfl (ho.out.alloc _) (some ⟨wr.heap.size, 0, none⟩) 1 1 [cc] rfl HRc.out (by omega) (by simp; omega) ?_; intro A3 c3 w3 hown1 hg1 hat1; refine Hid.out ?_)
            refine Lib.hid ?_
            have hbw1 : Hid (Below w.heap.size w w3) := (ho.out.alloc _).grows (hb.out.alloc hb.out.size _) hg1 (Nat.le_refl _) (by simp; omega)
            have HO2 : Hid (OB w3 w.heap.size A3 (L2 + 1) c3 (Dm.adr n ++ [32] ++ (Dm.segs 0 l ++ Dm.pad l.length) ++ [32, 124] ++ (l.take (k + 1)).map Dm.toCh)) := by
              rw [Hid, HT.out, HCh.out]
              simpa using hown1
            clear hown1 hg1 hat1
            go_wp2_with fail
            go_roundw
            case rel => exact ⟨k + 1, L2 + 1, A3, c3, by omega, by omega, rfl, by go_num, HO2, hbw1⟩
            case measure => simp [RowKit.intOf]; omega
          · have HCh : Hid (Dm.toCh cc = 46) := by have := HX.out; unfold Dm.toCh; rw [Hid, if_pos (by omega)]
            have HRc := Lib.hid (rb46 wr)
            rcases (by omega : x < 32 ∨ (32 ≤ x ∧ 126 < x)) with hc | ⟨hc1, hc2⟩
            all_goals
              go_wp2_with (at_builtin; refine wpList_appB rfl (.tmp 72) (.tmp 73) rfl w.heap.size L2 d2 X2 _ rfl (ho.out.alloc _) (some ⟨wr.heap.size, 0, none⟩) 1 1 [46] rfl HRc.out (by omega) (by simp; omega) ?_; intro A3 c3 w3 hown1 hg1 hat1; refine Hid.out ?_)
              refine Lib.hid ?_
              have hbw1 : Hid (Below w.heap.size w w3) := (ho.out.alloc _).grows (hb.out.alloc hb.out.size _) hg1 (Nat.le_refl _) (by simp; omega)
              have HO2 : Hid (OB w3 w.heap.size A3 (L2 + 1) c3 (Dm.adr n ++ [32] ++ (Dm.segs 0 l ++ Dm.pad l.length) ++ [32, 124] ++ (l.take (k + 1)).map Dm.toCh)) := by
                rw [Hid, HT.out, HCh.out]
                simpa using hown1
              clear hown1 hg1 hat1
              go_wp2_with fail
              go_roundw
              case rel => exact ⟨k + 1, L2 + 1, A3, c3, by omega, by omega, rfl, by go_num, HO2, hbw1⟩
              case measure => simp [RowKit.intOf]; omega
        · have hk3 : k = m := by omega
          subst hk3
          have e : l.take k = l := by rw [← HL.out, List.take_length]
          rw [e] at ho
          clear e
          go_wp2_with (at_builtin; refine wpList_appB rfl (.tmp 75) (.tmp 76) rfl w.heap.size L2 d2 X2 _ rfl (ho.out.alloc _) (some ⟨wr.heap.size, 0, none⟩) 2 2 [124, 10] rfl (rbEnd wr) (by omega) (by simp; omega) ?_; intro A3 c3 w3 hown1 hg1 hat1; refine Hid.out ?_)
          refine Lib.hid ?_
          have hbw1 : Hid (Below w.heap.size w w3) := (ho.out.alloc _).grows (hb.out.alloc hb.out.size _) hg1 (Nat.le_refl _) (by simp; omega)
          have HO2 : Hid (OB w3 w.heap.size A3 (L2 + 2) c3 (Dm.line n l)) := by
            unfold Dm.line
            simpa [Hid] using hown1
          clear hown1 hg1 hat1
          go_wp2_with fail
          go_ret
          exact ⟨L2 + 2, A3, c3, rfl, HO2.out, by omega, hbw1.out⟩

end Go.Proofs.Ytkhoifaakidfcaa
