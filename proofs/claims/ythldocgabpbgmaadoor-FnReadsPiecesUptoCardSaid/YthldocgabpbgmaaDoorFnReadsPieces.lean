/-
  FnReadsPieces: what is read until the end does not depend on pieces and buffers, where the arguments hold together at most 1048576 values and letters; io.EOF and io.ErrUnexpectedEOF start as the program lays them.
-/
import Derived.Test.YthldocgabpbgmaaDoorCommon
import Derived.Test.YthldocgabpbgmaaDoorReadLaws
import Derived.Test.YthldocgabpbgmaaDoorLaid
namespace Go.Proofs.YthldocgabpbgmaaDoor.fnReadsPieces
open Go.ChangeShapes Go.WideShapes Go.ChangeAt Go.RowKit Go.Lib
open Go.ChangeMaps (open_string shut_string)
set_option linter.unusedVariables false

theorem elemSl : Tryd.prog.underlying 26 = some (.slice (Tryd.prog.elem 26)) := by kernel_rfl
theorem sizeSl (w : World) : (sizeOf (Tryd.prog.elem 26)).run Tryd.prog w = .ok 1 w := by kernel_rfl
theorem run_toP (A : Option Addr) (n c : Nat) (k : Int) (h0 : 0 ≤ k) (h1 : k ≤ c) (w : World) :
    (Instr.slice 26 (.slice A n c) none (some (.int .i64 k)) none).run Tryd.prog w = .ok (.slice A k.toNat c) w := by
  rw [run_slice_h (P := Tryd.prog) w 26 A n c elemSl .i64 k h0 h1, sizeSl]
  simp only [Result.andThen_ok, sliced, Nat.sub_zero, Nat.zero_mul]
  by_cases hc : c = 0
  · rw [if_pos hc]
  · rw [if_neg hc]
    cases A with
    | none => rfl
    | some a => simp [Addr.add]
theorem RP.to_ {w : World} {A : Option Addr} {n k : Nat} {ls : List (List UInt8)} (h : RP w A n ls) (hk : k ≤ n) : RP w A k (ls.take k) :=
  ⟨by rw [List.length_take, h.1]; omega, fun hn => by
    obtain ⟨b, o, e, hb, hc⟩ := h.2 (by omega)
    refine ⟨b, o, e, hb, fun i l hi => hc i l ?_⟩
    rw [List.getElem?_take] at hi
    split at hi
    · exact hi
    · cases hi⟩
theorem joinedD (A : Option Addr) (n c : Nat) (ls : List (List UInt8)) (D : List UInt8) (m : Nat) (w : World) (h : RP w A n ls) (hn : n ≤ 140737488351232) (hD : ls.flatten = D) (hm : D.length = m) (hbig : m ≤ 140737488355328) :
    Calls Tryd.prog 11 #[.slice A n c] w fun e w' => ∃ A' c', e = .returned (.slice A' m c') ∧ RB w' A' m D ∧ Below w.heap.size w w' := by
  subst hD hm
  refine (specJoined A n c ls w h hn hbig).mono ?_
  rintro e w' ⟨A', c', rfl, ho, hb⟩
  exact ⟨A', c', rfl, ho.rb, hb⟩

set_option maxHeartbeats 8000000 in
set_option maxRecDepth 100000 in
theorem walk (A0 : Option Addr) (n0 c0 : Nat) (l0 : List UInt8) (x1 : Int) (x2 : Int) (A3 : Option Addr) (n3 c3 : Nat) (l3 : List Int) (A4 : Option Addr) (n4 c4 : Nat) (l4 : List Int) (w : World) (h0 : RB w A0 n0 l0) (e0 : n0 ≤ c0) (g0 : c0 ≤ 140737488351232) (b1 : -9223372036854775808 ≤ x1 ∧ x1 ≤ 9223372036854775807) (b2 : -9223372036854775808 ≤ x2 ∧ x2 ≤ 9223372036854775807) (h3 : RI w A3 n3 l3) (e3 : n3 ≤ c3) (g3 : c3 ≤ 140737488351232) (h4 : RI w A4 n4 l4) (e4 : n4 ≤ c4) (g4 : c4 ≤ 140737488351232) (hk : c0 + c3 + c4 ≤ 1048576) (hE : ErrIs w) :
    Calls Tryd.prog 5 #[.slice A0 n0 c0, .int .i64 x1, .int .i64 x2, .slice A3 n3 c3, .slice A4 n4 c4] w fun e w' => e = .returned (.bool true) ∧ Below w.heap.size w w' := by
  have HB := Lib.hid h0
  have HI3 := Lib.hid h3
  have HI4 := Lib.hid h4
  have HE := Lib.hid hE
  clear h0 h3 h4 hE
  have POS3 := Lib.hid (positive_any A3 n3 c3 l3 w HI3.out (by omega))
  have POS4 := Lib.hid (positive_any A4 n4 c4 l4 w HI4.out (by omega))
  by_cases hx : x1 < 1
  ·
    go_enter Tryd.func5, Tryd.ntmps5
    go_wp2_with (first | (go_at_call_of 7 (Value.slice A3 n3 c3); refine POS3.out.mono ?_; rintro e w1 ⟨rfl, rfl⟩) | (go_at_call_of 7 (Value.slice A4 n4 c4); refine POS4.out.mono ?_; rintro e w1 ⟨rfl, rfl⟩) | (go_at_call 8; refine (reader_true _ (by exact HE.out)).mono ?_; rintro e w2 ⟨rfl, hb⟩))
    go_ret
    exact ⟨rfl, hb⟩
  have hx' : 1 ≤ x1 := by omega
  clear hx
  by_cases hy : x2 < 1
  ·
    go_enter Tryd.func5, Tryd.ntmps5
    go_wp2_with (first | (go_at_call_of 7 (Value.slice A3 n3 c3); refine POS3.out.mono ?_; rintro e w1 ⟨rfl, rfl⟩) | (go_at_call_of 7 (Value.slice A4 n4 c4); refine POS4.out.mono ?_; rintro e w1 ⟨rfl, rfl⟩) | (go_at_call 8; refine (reader_true _ (by exact HE.out)).mono ?_; rintro e w2 ⟨rfl, hb⟩))
    go_ret
    exact ⟨rfl, hb⟩
  have hy' : 1 ≤ x2 := by omega
  clear hy
  cases hp3 : pos l3 with
  | false =>
    rw [hp3] at POS3
    clear hp3
    go_enter Tryd.func5, Tryd.ntmps5
    go_wp2_with (first | (go_at_call_of 7 (Value.slice A3 n3 c3); refine POS3.out.mono ?_; rintro e w1 ⟨rfl, rfl⟩) | (go_at_call_of 7 (Value.slice A4 n4 c4); refine POS4.out.mono ?_; rintro e w1 ⟨rfl, rfl⟩) | (go_at_call 8; refine (reader_true _ (by exact HE.out)).mono ?_; rintro e w2 ⟨rfl, hb⟩))
    go_ret
    exact ⟨rfl, hb⟩
  | true =>
  cases hp4 : pos l4 with
  | false =>
    rw [hp3] at POS3
    rw [hp4] at POS4
    clear hp3 hp4
    go_enter Tryd.func5, Tryd.ntmps5
    go_wp2_with (first | (go_at_call_of 7 (Value.slice A3 n3 c3); refine POS3.out.mono ?_; rintro e w1 ⟨rfl, rfl⟩) | (go_at_call_of 7 (Value.slice A4 n4 c4); refine POS4.out.mono ?_; rintro e w1 ⟨rfl, rfl⟩) | (go_at_call 8; refine (reader_true _ (by exact HE.out)).mono ?_; rintro e w2 ⟨rfl, hb⟩))
    go_ret
    exact ⟨rfl, hb⟩
  | true =>
  rw [hp3] at POS3
  rw [hp4] at POS4
  obtain ⟨ks, rfl, hks⟩ := pos_nat l3 hp3
  obtain ⟨js, rfl, hjs⟩ := pos_nat l4 hp4
  obtain ⟨pc, rfl⟩ : ∃ pc : Nat, x1 = (pc : Int) := ⟨x1.toNat, by omega⟩
  obtain ⟨pd, rfl⟩ : ∃ pd : Nat, x2 = (pd : Int) := ⟨x2.toNat, by omega⟩
  obtain ⟨a, b, hEab⟩ := HE.out
  have DR := Lib.hid (decodeReads A0 n0 c0 l0 pc A3 n3 c3 ks w a b hEab HB.out (by omega) (by omega) HI3.out hks (by omega))
  have HEab := Lib.hid hEab
  have HJS := Lib.hid hjs
  clear hp3 hp4 hks hjs hEab
  go_enter Tryd.func5, Tryd.ntmps5
  go_wp2_with (first
    | (go_at_call_of 7 (Value.slice A3 n3 c3); refine POS3.out.mono ?_; rintro e w1 ⟨rfl, rfl⟩)
    | (go_at_call_of 7 (Value.slice A4 n4 c4); refine POS4.out.mono ?_; rintro e w1 ⟨rfl, rfl⟩)
    | (go_at_call_of 9 (Value.slice A3 n3 c3); refine DR.out.mono ?_; rintro e w2 ⟨X, c1, Y, d1, rfl, hX, hY, hb2, k1, k2, k3, k4⟩; refine Hid.out ?_))
  refine Lib.hid ?_
  clear POS3 POS4 DR
  have DR2 := Lib.hid (decodeReads A0 n0 c0 l0 pd A4 n4 c4 js w2 a b (HEab.out.below hb2) (HB.out.below hb2) (by omega) (by omega) (HI4.out.below hb2) HJS.out (by omega))
  have HB2 := Lib.hid hb2
  clear hb2
  go_wp2_with (go_at_call_of 9 (Value.slice A4 n4 c4); refine DR2.out.mono ?_; rintro e w3 ⟨X', c1', Y', d1', rfl, hX', hY', hb3, k1', k2', k3', k4'⟩; refine Hid.out ?_)
  refine Lib.hid ?_
  have HX : Hid (RP w3 X n3 (Hex.reads pc (Hex.start l0) ks)) := hX.out.below hb3
  have HY : Hid (RI w3 Y n3 (Hex.ends pc (Hex.start l0) ks)) := hY.out.below hb3
  have HX' : Hid (RP w3 X' n4 (Hex.reads pd (Hex.start l0) js)) := hX'
  have HY' : Hid (RI w3 Y' n4 (Hex.ends pd (Hex.start l0) js)) := hY'
  have HB3 : Hid (Below w.heap.size w w3) := HB2.out.trans (hb3.mono HB2.out.size)
  have HE3 : Hid (ErrIs w3) := HE.out.below HB3.out
  have HLen : Hid (l0.length = n0) := HB.out.len
  have F1 := Lib.hid (first_any Y n3 d1 (Hex.ends pc (Hex.start l0) ks) w3 HY.out (by omega))
  have F2 := Lib.hid (first_any Y' n4 d1' (Hex.ends pd (Hex.start l0) js) w3 HY'.out (by omega))
  clear hX hY hX' hY' hb3 HB2 DR2 HB HI3 HI4
  have C1 := firstI_cases (Hex.ends pc (Hex.start l0) ks)
  have C2 := firstI_cases (Hex.ends pd (Hex.start l0) js)
  rcases C1 with h1 | ⟨i, z, h1, hil, hiz, hz0⟩
  · rw [h1] at F1
    clear h1 C2
    go_wp2_with (first
      | (go_at_call_of 13 (Value.slice Y n3 d1); refine F1.out.mono ?_; rintro e w4 ⟨rfl, rfl⟩)
      | (go_at_call_of 13 (Value.slice Y' n4 d1'); refine F2.out.mono ?_; rintro e w4 ⟨rfl, rfl⟩)
      | (go_at_call 8; refine (reader_true w3 HE3.out).mono ?_; rintro e w5 ⟨rfl, hb5⟩))
    go_ret
    exact ⟨rfl, HB3.out.trans (hb5.mono HB3.out.size)⟩
  rcases C2 with h2 | ⟨j, y, h2, hjl, hjy, hy0⟩
  · rw [h1] at F1
    rw [h2] at F2
    have hi0 : (0 : Int) ≤ (i : Int) := by omega
    clear h1 h2
    go_wp2_with (first
      | (go_at_call_of 13 (Value.slice Y n3 d1); refine F1.out.mono ?_; rintro e w4 ⟨rfl, rfl⟩)
      | (go_at_call_of 13 (Value.slice Y' n4 d1'); refine F2.out.mono ?_; rintro e w4 ⟨rfl, rfl⟩)
      | (go_at_call 8; refine (reader_true w3 HE3.out).mono ?_; rintro e w5 ⟨rfl, hb5⟩))
    go_ret
    exact ⟨rfl, HB3.out.trans (hb5.mono HB3.out.size)⟩
  rw [h1] at F1
  rw [h2] at F2
  have E1 := Hex.end_all pc l0 ks i z hiz hz0
  have E2 := Hex.end_all pd l0 js j y hjy hy0
  obtain ⟨D, hD⟩ : ∃ D, D = (Hx.decode l0).1 := ⟨_, rfl⟩
  rw [← hD] at E1 E2
  obtain rfl : y = z := by rw [E1.2, E2.2]
  have hin : i < n3 := by rw [← HY.out.len]; exact hil
  have hjn : j < n4 := by rw [← HY'.out.len]; exact hjl
  obtain ⟨be, oe, z1, eY, hbe, hz1, hce⟩ := HY.out.at_ hin
  obtain ⟨bf, of_, z2, eY', hbf, hz2, hcf⟩ := HY'.out.at_ hjn
  subst eY eY'
  obtain rfl : z1 = y := by rw [hiz] at hz1; exact (Option.some.inj hz1).symm
  obtain rfl : z2 = z1 := by rw [hjy] at hz2; exact (Option.some.inj hz2).symm
  have HDl : Hid (D.length ≤ 1048576) := by
    have h := Hx.decode_len l0
    rw [← hD, HLen.out] at h
    rw [Hid]
    omega
  obtain ⟨m, hm⟩ : ∃ m, D.length = m := ⟨_, rfl⟩
  have HM := Lib.hid hm
  have hmb : m ≤ 140737488355328 := by have := HDl.out; omega
  have E1a := Lib.hid E1.1
  have E2a := Lib.hid E2.1
  have HXi : Hid (RP w3 X (i + 1) ((Hex.reads pc (Hex.start l0) ks).take (i + 1))) := RP.to_ HX.out (by omega)
  have HXj : Hid (RP w3 X' (j + 1) ((Hex.reads pd (Hex.start l0) js).take (j + 1))) := RP.to_ HX'.out (by omega)
  have hto1 := fun w => run_toP X n3 c1 ((i : Int) + 1) (by omega) (by omega) w
  have hto2 := fun w => run_toP X' n4 c1' ((j : Int) + 1) (by omega) (by omega) w
  rw [show ((i : Int) + 1).toNat = i + 1 by omega] at hto1
  rw [show ((j : Int) + 1).toNat = j + 1 by omega] at hto2
  have hi0 : (0 : Int) ≤ (i : Int) := by omega
  have hj0 : (0 : Int) ≤ (j : Int) := by omega
  have HCE := Lib.hid hce
  have HCF := Lib.hid hcf
  clear h1 h2 hiz hjy hz1 hz2 E1 E2 hD hm hce hcf hz0 hy0
  go_wp2_with (first
    | (go_at_call_of 13 (Value.slice (some ⟨be, oe, none⟩) n3 d1); refine F1.out.mono ?_; rintro e w4 ⟨rfl, rfl⟩)
    | (go_at_call_of 13 (Value.slice (some ⟨bf, of_, none⟩) n4 d1'); refine F2.out.mono ?_; rintro e w4 ⟨rfl, rfl⟩))
  have HE3d : Hid (ErrIs w3.drew) := HE3.out
  have hini : (i : Int) < (n3 : Int) := by omega
  have hjnj : (j : Int) < (n4 : Int) := by omega
  have hi1 : (i + 1 : Nat) ≤ 140737488351232 := by omega
  have hwi : IntKind.i64.wrap ((i : Int) + 1) = (i : Int) + 1 := IntWalk.i64_in _ (by omega)
  have hwj : IntKind.i64.wrap ((j : Int) + 1) = (j : Int) + 1 := IntWalk.i64_in _ (by omega)
  have hj1 : (j + 1 : Nat) ≤ 140737488351232 := by omega
  go_region_held3 (fun w' => w'.cell? ⟨be, oe + i, none⟩ = some (.int .i64 z2) ∧ w'.cell? ⟨bf, of_ + j, none⟩ = some (.int .i64 z2))
    (first | exact ⟨ce7, cf7⟩ | exact ⟨ce6, cf6⟩ | exact ⟨ce5, cf5⟩ | exact ⟨HCE.out, HCF.out⟩)
    (first
    | (go_at_call 8; (refine (reader_true _ (by exact HE3d.out)).mono ?_; rintro e w5 ⟨rfl, hb5d⟩; have hb5 : Below w3.heap.size w3 w5 := ⟨hb5d.os, hb5d.tape, hb5d.output, hb5d.size, hb5d.block⟩; have ce5 : w5.cell? ⟨be, oe + i, none⟩ = some (.int .i64 z2) := (hb5.cell (p := ⟨be, oe + i, none⟩) hbe).trans HCE.out; have cf5 : w5.cell? ⟨bf, of_ + j, none⟩ = some (.int .i64 z2) := (hb5.cell (p := ⟨bf, of_ + j, none⟩) hbf).trans HCF.out; have hbe5 : be < w5.heap.size := Nat.lt_of_lt_of_le hbe hb5.size; have hbf5 : bf < w5.heap.size := Nat.lt_of_lt_of_le hbf hb5.size; have HXi5 := Lib.hid (HXi.out.below hb5); have HXj5 := Lib.hid (HXj.out.below hb5); have HB5 : Hid (Below w.heap.size w w5) := HB3.out.trans (hb5.mono HB3.out.size); clear hb5 hb5d))
    | (go_at_call 11; (refine (joinedD X (i + 1) c1 _ D m _ HXi5.out hi1 E1a.out HM.out hmb).mono ?_; rintro e w6 ⟨A6, c6, rfl, hr6, hb6⟩; have ce6 : w6.cell? ⟨be, oe + i, none⟩ = some (.int .i64 z2) := (hb6.cell (p := ⟨be, oe + i, none⟩) hbe5).trans ce5; have cf6 : w6.cell? ⟨bf, of_ + j, none⟩ = some (.int .i64 z2) := (hb6.cell (p := ⟨bf, of_ + j, none⟩) hbf5).trans cf5; have hbe6 : be < w6.heap.size := Nat.lt_of_lt_of_le hbe5 hb6.size; have hbf6 : bf < w6.heap.size := Nat.lt_of_lt_of_le hbf5 hb6.size; have HXj6 := Lib.hid (HXj5.out.below hb6); have HR6 := Lib.hid hr6; have HB6 : Hid (Below w.heap.size w w6) := HB5.out.trans (hb6.mono HB5.out.size); clear hb6 hr6 HXi5))
    | (go_at_call 11; (refine (joinedD X' (j + 1) c1' _ D m _ HXj6.out hj1 E2a.out HM.out hmb).mono ?_; rintro e w7 ⟨A7, c7, rfl, hr7, hb7⟩; have ce7 : w7.cell? ⟨be, oe + i, none⟩ = some (.int .i64 z2) := (hb7.cell (p := ⟨be, oe + i, none⟩) hbe6).trans ce6; have cf7 : w7.cell? ⟨bf, of_ + j, none⟩ = some (.int .i64 z2) := (hb7.cell (p := ⟨bf, of_ + j, none⟩) hbf6).trans cf6; have SM := Lib.hid (same_any A6 m c6 D A7 m c7 D w7 (HR6.out.below hb7) hr7); have HB7 : Hid (Below w.heap.size w w7) := HB6.out.trans (hb7.mono HB6.out.size); rw [beq_self_eq_true] at SM; clear hb7 hr7))
    | (go_at_call 12; (refine SM.out.mono ?_; rintro e w8 ⟨rfl, rfl⟩)))
  all_goals (go_wp2_with fail; go_ret; exact ⟨rfl, HB7.out⟩)

/-- What the walk gives, said of whatever the row reads. -/
theorem contract (H : Type) (enc : TypeId × Value → H) (W : World) (base : Nat) (args : Array Value) (ds gs : List (DataW H)) (before : List MemPlace)
    (hval : ∀ (j : Nat) t v, Tryd.f5.params[j]? = some t → args[j]? = some v → Value.okWide Tryd.prog W .any base t v)
    (hW : DataW.Whole enc Tryd.prog Tryd.f5.params.toList Rows.fnReadsPiecesSpec.vars false W args.toList ds gs before)
    (hsz : (DataW.weightsEach Tryd.prog (Tryd.f5.params.toList ++ Rows.fnReadsPiecesSpec.plain.varTypes Tryd.prog) (ds ++ gs)).all (· ≤ reachBytes) = true) (hk : Rows.uptoBulkAll (ds ++ gs) ≤ 1048576) (hE : ErrIs W) :
    Calls Tryd.prog 5 args W fun e W' => ∃ v, e = .returned v ∧ Rows.fnReadsPiecesSpec.post enc Tryd.prog Tryd.f5 false true false false W args v W' := by
  have hW' := hW
  obtain ⟨p, q, hA0, hV, rfl, _, _⟩ := hW
  have hA : DataW.TrodAll enc Tryd.prog W 0 (fun _ => true) true Tryd.f5.params.toList args.toList ds p := hA0
  clear hA0
  rw [Tryd.params5] at hA hval hsz
  obtain ⟨v0, vs0, d0, ds0, p0, q0, hargs, rfl, rfl, h0, r0⟩ := trodAll_cons hA
  obtain ⟨v1, vs1, d1, ds1, p1, q1, rfl, rfl, rfl, h1, r1⟩ := trodAll_cons r0
  obtain ⟨v2, vs2, d2, ds2, p2, q2, rfl, rfl, rfl, h2, r2⟩ := trodAll_cons r1
  obtain ⟨v3, vs3, d3, ds3, p3, q3, rfl, rfl, rfl, h3, r3⟩ := trodAll_cons r2
  obtain ⟨v4, vs4, d4, ds4, p4, q4, rfl, rfl, rfl, h4, r4⟩ := trodAll_cons r3
  obtain ⟨rfl, rfl, rfl⟩ := trodAll_nil r4
  obtain rfl : args = #[v0, v1, v2, v3, v4] := by cases args; simp_all
  obtain ⟨rfl, rfl⟩ := trodVars_none hV
  have k0 := h0
  have lt0 : ∀ x ∈ p0, x.block < W.heap.size := by obtain ⟨m, hm⟩ := k0; exact DataW.trod_lt m _ _ _ hm
  have k1 := h1
  have lt1 : ∀ x ∈ p1, x.block < W.heap.size := by obtain ⟨m, hm⟩ := k1; exact DataW.trod_lt m _ _ _ hm
  have k2 := h2
  have lt2 : ∀ x ∈ p2, x.block < W.heap.size := by obtain ⟨m, hm⟩ := k2; exact DataW.trod_lt m _ _ _ hm
  have k3 := h3
  have lt3 : ∀ x ∈ p3, x.block < W.heap.size := by obtain ⟨m, hm⟩ := k3; exact DataW.trod_lt m _ _ _ hm
  have k4 := h4
  have lt4 : ∀ x ∈ p4, x.block < W.heap.size := by obtain ⟨m, hm⟩ := k4; exact DataW.trod_lt m _ _ _ hm
  obtain ⟨A0, n0, c0, rfl⟩ := okWide_slice Tryd.underlying22 (hval 0 22 v0 rfl rfl)
  obtain ⟨l0, h0r, e0, g0, u0⟩ := argB h0 (weigh hsz (j := 0) rfl rfl)
  obtain ⟨x1, rfl, rfl, rfl, w1⟩ := open_int Tryd.underlying3 (hval 1 3 v1 rfl rfl) h1
  obtain ⟨x2, rfl, rfl, rfl, w2⟩ := open_int Tryd.underlying3 (hval 2 3 v2 rfl rfl) h2
  obtain ⟨A3, n3, c3, rfl⟩ := okWide_slice Tryd.underlying23 (hval 3 23 v3 rfl rfl)
  obtain ⟨l3, h3r, e3, g3, u3⟩ := argI h3 (weigh hsz (j := 3) rfl rfl)
  obtain ⟨A4, n4, c4, rfl⟩ := okWide_slice Tryd.underlying23 (hval 4 23 v4 rfl rfl)
  obtain ⟨l4, h4r, e4, g4, u4⟩ := argI h4 (weigh hsz (j := 4) rfl rfl)
  simp only [List.append_nil, Rows.uptoBulkAll] at hk
  refine (walk A0 n0 c0 l0 x1 x2 A3 n3 c3 l3 A4 n4 c4 l4 W h0r e0 g0 (int_wf w1) (int_wf w2) h3r e3 g3 h4r e4 g4 (by omega) hE).mono fun e W' ⟨he, bel⟩ => ?_
  subst he
  exact ⟨_, rfl, _, _, _, [], _, [], hW', trodAll_mk1 (shut_bool Tryd.underlying4 _), (trodAll_cons_mk (Below.trod laidOut (by kernel_rfl) (of_decide_eq_true (by kernel_rfl)) k0 bel lt0) (trodAll_cons_mk (Below.trod laidOut (by kernel_rfl) (of_decide_eq_true (by kernel_rfl)) k1 bel lt1) (trodAll_cons_mk (Below.trod laidOut (by kernel_rfl) (of_decide_eq_true (by kernel_rfl)) k2 bel lt2) (trodAll_cons_mk (Below.trod laidOut (by kernel_rfl) (of_decide_eq_true (by kernel_rfl)) k3 bel lt3) (trodAll_cons_mk (Below.trod laidOut (by kernel_rfl) (of_decide_eq_true (by kernel_rfl)) k4 bel lt4) trodAll_mk0))))), rfl, bel.frame _, fun h => by cases h⟩

theorem reads (os : Os) {H : Type} (enc : TypeId × Value → H) : ∃ places, DataW.whole enc Tryd.prog ((World.doorLaid Tryd.prog 400 os).forCall (fun _ _ => 0) ⟨#[], #[.slice none 0 0, .int .i64 0, .int .i64 0, .slice none 0 0, .slice none 0 0], []⟩).memory Tryd.f5.params.toList Rows.fnReadsPiecesSpec.vars false (#[.slice none 0 0, .int .i64 0, .int .i64 0, .slice none 0 0, .slice none 0 0] : Array Value).toList 8 = some ([.nil, .lit (.int .i64 0), .lit (.int .i64 0), .nil, .nil], [], places) :=
  ⟨[], by kernel_rfl⟩

set_option maxRecDepth 100000 in
theorem lifted (os : Os) (started : os.Started) (H : Type) (enc : TypeId × Value → H) (F : Stop.Interp) :
    ReturnsInHanded {} Tryd.checked os 5 .any ((Rows.OpenSpec.upto Rows.fnReadsPiecesSpec).preRow enc Tryd.prog Tryd.f5 Rows.fnReadsPiecesUptoRow.domain false Rows.fnReadsPiecesUptoRow.laid) (((Rows.OpenSpec.upto Rows.fnReadsPiecesSpec).at F).post enc Tryd.prog Tryd.f5 false true false false) := by
  obtain ⟨places, hx⟩ := reads os enc
  refine returnsInHanded_of_row (C := Tryd.checked) (s := Rows.OpenSpec.upto Rows.fnReadsPiecesSpec) own started (by kernel_rfl) Tryd.func5
    (witness_row_atRef (enc := enc) (C := Tryd.checked) false (World.doorLaid Tryd.prog 400 os) #[.slice none 0 0, .int .i64 0, .int .i64 0, .slice none 0 0, .slice none 0 0] rfl (by kernel_rfl) (by kernel_rfl) (by kernel_rfl)
      (OpenSpec.preRow_of_cond 8 hx (by kernel_rfl) (fun k hk => by cases hk; kernel_rfl) (by kernel_rfl) (door_met os _))) ?_
  intro W base args ds gs before hval hW _ hk hsz hL _ _
  exact contract H enc W base args ds gs before hval hW hsz (of_decide_eq_true (hk _ rfl)) (errIs_of hL)

theorem over : Rows.FnReadsPiecesUptoSaid :=
  OpenClaim.holds_of_cond 5 Tryd.f5 rfl rfl rfl rfl rfl rfl rfl ⟨rfl, rfl, rfl, rfl, rfl⟩ rfl rfl rfl rfl rfl (by kernel_rfl) Tryd.func5 (by kernel_rfl)
    (of_decide_eq_true (by kernel_rfl)) (by unfold Func.isWrapper; first | (rw [if_pos (by decide +kernel)]; kernel_rfl) | (rw [if_neg (by decide +kernel)]; exact ⟨rfl, rfl⟩))
    (fun os started H enc _ F => by rw [OpenClaim.pre_eq_preRow]; exact lifted os started H enc F)

theorem plain (f : FuncId) (fn : Func) (hf : Tryd.pinned.checked.prog.funcNamed Rows.fnReadsPiecesUptoRow.func = some f) (hfn : Tryd.pinned.checked.prog.funcs[f]? = some fn) :
    true = Tryd.pinned.checked.prog.looks [] ∧ ∀ (j : Nat) t, fn.params[j]? = some t → Tryd.pinned.checked.prog.wantsStandIn t = false := by
  obtain rfl : f = 5 := Option.some.inj ((show Tryd.prog.funcNamed Rows.fnReadsPiecesUptoRow.func = some 5 by kernel_rfl).symm.trans hf) |>.symm
  obtain rfl : fn = Tryd.f5 := (Option.some.inj (Tryd.func5.symm.trans hfn)).symm
  refine ⟨by kernel_rfl, fun j t ht => ?_⟩
  rw [Tryd.params5] at ht
  have hm := Array.mem_of_getElem? ht
  simp at hm
  first
    | (subst hm; exact (show Tryd.prog.wantsStandIn _ = false by kernel_rfl))
    | (rcases hm with rfl | rfl <;> exact (show Tryd.prog.wantsStandIn _ = false by kernel_rfl))
    | (rcases hm with rfl | rfl | rfl <;> exact (show Tryd.prog.wantsStandIn _ = false by kernel_rfl))

theorem proved : Rows.FnReadsPiecesUptoCardSaid :=
  Claim7.holds_tied_plain_at .later [] _ _ _ _ over (fun _ h => by cases h) (by kernel_rfl) (fun _ h => by cases h) fnReadsPiecesUpto_row_tie rfl ⟨rfl, rfl⟩ (by kernel_rfl) rfl plain (by kernel_rfl)
end Go.Proofs.YthldocgabpbgmaaDoor.fnReadsPieces
