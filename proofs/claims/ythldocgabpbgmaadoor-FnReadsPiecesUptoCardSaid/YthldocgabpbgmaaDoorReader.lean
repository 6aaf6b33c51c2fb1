/-
  Contract: the laws' reader: the byte 7 is read from its text, and then the end.
-/
import Derived.Test.YthldocgabpbgmaaDoorReads
import Derived.Test.YthldocgabpbgmaaDoorDigit
import Derived.Lib.SlBytesConst
namespace Go.Proofs.YthldocgabpbgmaaDoor
open Go.RowKit Go.Lib
set_option linter.unusedVariables false

theorem reader_reads : Hex.reads 2 ⟨[], [48, 55], none⟩ [1, 1] = [[7], []] := by decide +kernel
theorem reader_ends : Hex.ends 2 ⟨[], [48, 55], none⟩ [1, 1] = [0, 1] := by decide +kernel

theorem RB.twoF (w : World) (b d : UInt8) (fr : Nat × Nat) : RB (w.alloc (.cells #[.int .u8 (b.toNat : Int), .int .u8 (d.toNat : Int)] 5 fr)) (some ⟨w.heap.size, 0, none⟩) 2 [b, d] :=
  ⟨rfl, fun _ => ⟨w.heap.size, 0, rfl, by simp, fun i c hi => by
    match i with
    | 0 => simp at hi; subst hi; rw [cell_of_row _ _ _ _ _ fr (heap_alloc_new w _)]; rfl
    | 1 => simp at hi; subst hi; rw [cell_of_row _ _ _ _ _ fr (heap_alloc_new w _)]; rfl
    | i + 2 => simp at hi⟩⟩

theorem ErrIs.below {w w' : World} (h : ErrIs w) (hb : Below w.heap.size w w') : ErrIs w' := by
  obtain ⟨a, b, h⟩ := h
  exact ⟨a, b, h.below hb⟩

set_option maxHeartbeats 2000000 in
set_option maxRecDepth 100000 in
theorem reader_true (w : World) (hE : ErrIs w) : Calls Tryd.prog 8 #[] w fun e w' => e = .returned (.bool true) ∧ Below w.heap.size w w' := by
  obtain ⟨a, b, hE⟩ := hE
  have HB2 : Hid (Below w.heap.size w ((w.alloc (.cells #[.int .u8 48, .int .u8 55] 5 (2, 3))).alloc (.cells #[.int .i64 1, .int .i64 1] 3))) := ((Below.refl w.heap.size w).alloc (Nat.le_refl _) _).alloc (by simp) _
  have HE2 := Lib.hid (hE.below HB2.out)
  have HR : Hid (RB ((w.alloc (.cells #[.int .u8 48, .int .u8 55] 5 (2, 3))).alloc (.cells #[.int .i64 1, .int .i64 1] 3)) (some ⟨w.heap.size, 0, none⟩) 2 [48, 55]) := (RB.twoF w 48 55 (2, 3)).alloc _
  have HI : Hid (RI ((w.alloc (.cells #[.int .u8 48, .int .u8 55] 5 (2, 3))).alloc (.cells #[.int .i64 1, .int .i64 1] 3)) (some ⟨w.heap.size + 1, 0, none⟩) 2 ([1, 1].map fun k : Nat => (k : Int))) := by
    have := RI.two (w.alloc (.cells #[.int .u8 48, .int .u8 55] 5 (2, 3))) 1 1
    simpa [Hid] using this
  have hcv := Lib.run_convert_bytes_const (P := Tryd.prog) w 22 5 #[.int .u8 48, .int .u8 55] 2 2 Tryd.underlying22 Tryd.underlying5
  simp only [List.size_toArray, List.length_cons, List.length_nil, Nat.zero_add, Nat.reduceAdd] at hcv
  clear hE
  go_enter Tryd.func8, Tryd.ntmps8
  go_wp2_with (go_at_call 9; refine (decodeReads _ 2 2 [48, 55] 2 _ 2 2 [1, 1] _ a b HE2.out HR.out (by omega) (by omega) HI.out (by simp) (by omega)).mono ?_; rintro e w3 ⟨X, c1, Y, c2, rfl, hX, hY, hb3, h1, h2, h3, h4⟩; refine Hid.out ?_)
  refine Lib.hid ?_
  rw [reader_reads] at hX
  rw [reader_ends] at hY
  have HB3 : Hid (Below w.heap.size w w3) := HB2.out.trans (hb3.mono HB2.out.size)
  clear hb3 HE2 HR HI HB2
  go_wp2_with (go_at_call 11; refine (specJoined X 2 c1 [[7], []] w3 hX.out (by omega) (by simp)).mono ?_; rintro e w4 ⟨A4, c4, rfl, ho4, hb4⟩; refine Hid.out ?_)
  refine Lib.hid ?_
  have e4 : ([[7], []] : List (List UInt8)).flatten = [7] := rfl
  rw [e4] at ho4
  have HY4 := Lib.hid (hY.out.below hb4)
  have HB4 : Hid (Below w.heap.size w w4) := HB3.out.trans (hb4.mono HB3.out.size)
  have HO4 : Hid (RB (w4.alloc (.cells #[.int .u8 7] 5)) A4 1 [7]) := ho4.rb.alloc _
  have HO5 : Hid (RB (w4.alloc (.cells #[.int .u8 7] 5)) (some ⟨w4.heap.size, 0, none⟩) 1 [7]) := RB.one w4 7
  have HB5 : Hid (Below w.heap.size w (w4.alloc (.cells #[.int .u8 7] 5))) := HB4.out.alloc HB4.out.size _
  have HY5 : Hid (RI (w4.alloc (.cells #[.int .u8 7] 5)) Y 2 [0, 1]) := HY4.out.below ((Below.refl _ w4).alloc (Nat.le_refl _) _)
  clear hX hY hb4 ho4 e4 HB3
  obtain ⟨by_, oy, eY, _, hc⟩ := HY5.out.2 (by omega)
  subst eY
  have y0 := hc 0 0 rfl
  have y1 := hc 1 1 rfl
  simp only [Nat.add_zero] at y0
  have Y0 := Lib.hid y0
  have Y1 := Lib.hid y1
  clear hc y0 y1
  go_wp2_with (go_at_call 12; refine (same_any A4 1 c4 [7] (some ⟨w4.heap.size, 0, none⟩) 1 1 [7] _ HO4.out HO5.out).mono ?_; rintro e w6 ⟨rfl, rfl⟩; have y0 := Y0.out; have y1 := Y1.out; generalize w4.alloc (.cells #[.int .u8 7] 5) = w7 at *)
  go_ret
  exact ⟨rfl, HB5.out⟩

end Go.Proofs.YthldocgabpbgmaaDoor
