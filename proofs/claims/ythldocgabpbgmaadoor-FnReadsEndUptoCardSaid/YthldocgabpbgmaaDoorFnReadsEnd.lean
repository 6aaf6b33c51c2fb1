/-
  FnReadsEnd: when a read tells an end, all is read, and it is the end that the reference tells, where the arguments hold together at most 1048576 values and letters; io.EOF and io.ErrUnexpectedEOF start as the program lays them.
-/
import Derived.Test.YthldocgabpbgmaaDoorCommon
import Derived.Test.YthldocgabpbgmaaDoorReadLaws
import Derived.Test.YthldocgabpbgmaaDoorLaid
namespace Go.Proofs.YthldocgabpbgmaaDoor.fnReadsEnd
open Go.ChangeShapes Go.WideShapes Go.ChangeAt Go.RowKit Go.Lib
open Go.ChangeMaps (open_string shut_string)
set_option linter.unusedVariables false



set_option maxHeartbeats 1000000 in
set_option maxRecDepth 100000 in
theorem walk (A0 : Option Addr) (n0 c0 : Nat) (l0 : List UInt8) (x1 : Int) (A2 : Option Addr) (n2 c2 : Nat) (l2 : List Int) (w : World) (h0 : RB w A0 n0 l0) (e0 : n0 ≤ c0) (g0 : c0 ≤ 140737488351232) (b1 : -9223372036854775808 ≤ x1 ∧ x1 ≤ 9223372036854775807) (h2 : RI w A2 n2 l2) (e2 : n2 ≤ c2) (g2 : c2 ≤ 140737488351232) (hk : c0 + c2 ≤ 1048576) (hE : ErrIs w) :
    Calls Tryd.prog 4 #[.slice A0 n0 c0, .int .i64 x1, .slice A2 n2 c2] w fun e w' => e = .returned (.bool true) ∧ Below w.heap.size w w' := by
  have HB := Lib.hid h0
  have HI := Lib.hid h2
  have HE := Lib.hid hE
  clear h0 h2 hE
  by_cases hx : x1 < 1
  · go_enter Tryd.func4, Tryd.ntmps4
    go_wp2_with (go_at_call 8; refine (reader_true _ (by exact HE.out)).mono ?_; rintro e w2 ⟨rfl, hb⟩)
    go_ret
    exact ⟨rfl, hb⟩
  · have hx' : 1 ≤ x1 := by omega
    have POS := Lib.hid (positive_any A2 n2 c2 l2 w HI.out (by omega))
    cases hp : pos l2 with
    | false =>
      rw [hp] at POS
      clear hp
      go_enter Tryd.func4, Tryd.ntmps4
      go_wp2_with (first
        | (go_at_call 7; refine POS.out.mono ?_; rintro e w1 ⟨rfl, rfl⟩)
        | (go_at_call 8; refine (reader_true _ (by exact HE.out)).mono ?_; rintro e w2 ⟨rfl, hb⟩))
      go_ret
      exact ⟨rfl, hb⟩
    | true =>
      rw [hp] at POS
      obtain ⟨ks, rfl, hks⟩ := pos_nat l2 hp
      obtain ⟨pc, rfl⟩ : ∃ pc : Nat, x1 = (pc : Int) := ⟨x1.toNat, by omega⟩
      obtain ⟨a, b, hEab⟩ := HE.out
      have DR := Lib.hid (decodeReads A0 n0 c0 l0 pc A2 n2 c2 ks w a b hEab HB.out (by omega) (by omega) HI.out hks (by omega))
      clear hp hks hEab hx
      go_enter Tryd.func4, Tryd.ntmps4
      go_wp2_with (first
        | (go_at_call 7; refine POS.out.mono ?_; rintro e w1 ⟨rfl, rfl⟩)
        | (go_at_call 9; refine DR.out.mono ?_; rintro e w2 ⟨X, c1, Y, d1, rfl, hX, hY, hb2, k1, k2, k3, k4⟩; refine Hid.out ?_))
      refine Lib.hid ?_
      clear POS DR
      have HX : Hid (RP w2 X n2 (Hex.reads pc (Hex.start l0) ks)) := hX
      have HY : Hid (RI w2 Y n2 (Hex.ends pc (Hex.start l0) ks)) := hY
      have HB2 := Lib.hid hb2
      have HE2 := Lib.hid (HE.out.below hb2)
      have HR2 := Lib.hid (HB.out.below hb2)
      have HI2 := Lib.hid (HI.out.below hb2)
      clear hX hY hb2 HB
      obtain ⟨R, hR⟩ : ∃ R, R = Hex.reads pc (Hex.start l0) ks := ⟨_, rfl⟩
      have HR := Lib.hid hR
      rw [← hR] at HX
      clear hR
      go_wp2_with (go_at_call 10; refine (specDecode A0 n0 c0 l0 w2 HR2.out (by omega)).mono ?_; rintro e w3 ⟨X3, m3, d3, q0, q1, q2, rfl, hR3, hL3, hm3, hd3, hq0, hq1, hq2, hb3⟩; refine Hid.out ?_)
      refine Lib.hid ?_
      have HA : Hid (Below w3.heap.size w3 (w3.alloc (.cells #[.bool q0, .bool q1, .int .u8 q2] 30))) := (Below.refl _ w3).alloc (Nat.le_refl _) _
      have HX4 := Lib.hid ((HX.out.below hb3).below HA.out)
      have HY4 := Lib.hid ((HY.out.below hb3).below HA.out)
      have HB4 : Hid (Below w.heap.size w (w3.alloc (.cells #[.bool q0, .bool q1, .int .u8 q2] 30))) := (HB2.out.trans (hb3.mono HB2.out.size)).trans (HA.out.mono (Nat.le_trans HB2.out.size hb3.size))
      have HE4 := Lib.hid (HE.out.below HB4.out)
      have HC0 : Hid ((w3.alloc (.cells #[.bool q0, .bool q1, .int .u8 q2] 30)).cell? ⟨w3.heap.size, 0, none⟩ = some (.bool q0)) := by rw [Hid, cell_of_row _ _ _ _ _ (0, 0) (heap_alloc_new w3 _)]; rfl
      have HC1 : Hid ((w3.alloc (.cells #[.bool q0, .bool q1, .int .u8 q2] 30)).cell? ⟨w3.heap.size, 1, none⟩ = some (.bool q1)) := by rw [Hid, cell_of_row _ _ _ _ _ (0, 0) (heap_alloc_new w3 _)]; rfl
      have hmn : m3 ≤ 1048576 := by
        have h1 := Hx.decode_len l0
        rw [hL3.out, HR2.out.len] at h1
        omega
      have HLE : Hid (∀ k, (R.take k).flatten.length ≤ m3) := fun k => by
        rw [HR.out, ← Hex.reads_take, ← hL3.out]
        exact (Hex.begin_ pc l0 (ks.take k)).1
      clear hb3 HX HY HA HB2 hR3
      go_wp2_with fail
      generalize w3.alloc (.cells #[.bool q0, .bool q1, .int .u8 q2] 30) = w4 at *
      go_loopw [11, 12] (fun vn vi wr => ∃ k N : Nat, k ≤ n2 ∧ vn = .int .i64 (N : Int) ∧ vi = .int .i64 k ∧ Hid ((R.take k).flatten.length = N) ∧ w4 = wr) (fun _ vi _ => n2 - (intOf vi).toNat)
      case atStart => exact ⟨0, 0, Nat.zero_le _, rfl, rfl, by simp [Hid], rfl⟩
      case round =>
        obtain ⟨k, N, hk, rfl, rfl, hN, rfl⟩ := hrel
        by_cases hlt : k < n2
        · obtain ⟨bo, oo, r, Xr, mr, cr, rfl, hbo, hr, f1, hRr, hc1, hc2⟩ := HX4.out.at_ hlt
          obtain ⟨be, oe, ze, rfl, hbe, hze, f3⟩ := HY4.out.at_ hlt
          have HN2 : Hid ((R.take (k + 1)).flatten.length = N + mr) := by
            obtain ⟨hk', e⟩ := List.getElem?_eq_some_iff.1 hr
            rw [Hid, List.take_succ_eq_append_getElem hk', e, List.flatten_append, List.length_append, hN.out]
            simp [hRr.len]
          have hNb : N + mr ≤ m3 := by rw [← HN2.out]; exact HLE.out (k + 1)
          have HZE := Lib.hid hze
          have HRr := Lib.hid hRr
          clear hr hze hRr
          by_cases hz0 : ze = 0
          · subst hz0
            go_wp2_with fail
            go_roundw
            case rel => exact ⟨k + 1, N + mr, by omega, by first | go_num | (congr 1; omega), by go_num, HN2, by first | rfl | trivial⟩
            case measure => simp [intOf]; omega
          · obtain ⟨hall, hnum⟩ := Hex.end_all pc l0 ks k ze HZE.out hz0
            have hNm : N + mr = m3 := by rw [← HN2.out, HR.out, hall, hL3.out]
            have heq : ((N : Int) + (mr : Int) == (m3 : Int)) = true := by simp; omega
            have hq0' := hq0.out
            have hq1' := hq1.out
            rw [bad_num] at hq0'
            rw [wrong_num] at hq1'
            clear hall hNm hN HN2 HZE HRr HLE hq0 hq1 hq2 hz0
            have C0 := HC0.out
            have C1 := HC1.out
            rcases num_three (Hx.decode l0).2 with h1 | h1 | h1
            · rw [h1] at hq0' hq1' hnum
              obtain rfl : q0 = false := hq0'
              obtain rfl : q1 = false := hq1'
              subst hnum
              clear h1
              go_wp2_with (go_at_call 8; refine (reader_true _ HE4.out).mono ?_; rintro e w6 ⟨rfl, hb6⟩)
              go_ret
              exact ⟨rfl, HB4.out.trans (hb6.mono HB4.out.size)⟩
            · rw [h1] at hq0' hq1' hnum
              obtain rfl : q0 = true := hq0'
              obtain rfl : q1 = true := hq1'
              subst hnum
              clear h1
              go_wp2_with (go_at_call 8; refine (reader_true _ HE4.out).mono ?_; rintro e w6 ⟨rfl, hb6⟩)
              go_ret
              exact ⟨rfl, HB4.out.trans (hb6.mono HB4.out.size)⟩
            · rw [h1] at hq0' hq1' hnum
              obtain rfl : q0 = true := hq0'
              obtain rfl : q1 = false := hq1'
              subst hnum
              clear h1
              go_wp2_with (go_at_call 8; refine (reader_true _ HE4.out).mono ?_; rintro e w6 ⟨rfl, hb6⟩)
              go_ret
              exact ⟨rfl, HB4.out.trans (hb6.mono HB4.out.size)⟩
        · have hk2 : k = n2 := by omega
          subst hk2
          go_wp2_with (go_at_call 8; refine (reader_true _ HE4.out).mono ?_; rintro e w6 ⟨rfl, hb6⟩)
          go_ret
          exact ⟨rfl, HB4.out.trans (hb6.mono HB4.out.size)⟩

/-- What the walk gives, said of whatever the row reads. -/
theorem contract (H : Type) (enc : TypeId × Value → H) (W : World) (base : Nat) (args : Array Value) (ds gs : List (DataW H)) (before : List MemPlace)
    (hval : ∀ (j : Nat) t v, Tryd.f4.params[j]? = some t → args[j]? = some v → Value.okWide Tryd.prog W .any base t v)
    (hW : DataW.Whole enc Tryd.prog Tryd.f4.params.toList Rows.fnReadsEndSpec.vars false W args.toList ds gs before)
    (hsz : (DataW.weightsEach Tryd.prog (Tryd.f4.params.toList ++ Rows.fnReadsEndSpec.plain.varTypes Tryd.prog) (ds ++ gs)).all (· ≤ reachBytes) = true) (hk : Rows.uptoBulkAll (ds ++ gs) ≤ 1048576) (hE : ErrIs W) :
    Calls Tryd.prog 4 args W fun e W' => ∃ v, e = .returned v ∧ Rows.fnReadsEndSpec.post enc Tryd.prog Tryd.f4 false true false false W args v W' := by
  have hW' := hW
  obtain ⟨p, q, hA0, hV, rfl, _, _⟩ := hW
  have hA : DataW.TrodAll enc Tryd.prog W 0 (fun _ => true) true Tryd.f4.params.toList args.toList ds p := hA0
  clear hA0
  rw [Tryd.params4] at hA hval hsz
  obtain ⟨v0, vs0, d0, ds0, p0, q0, hargs, rfl, rfl, h0, r0⟩ := trodAll_cons hA
  obtain ⟨v1, vs1, d1, ds1, p1, q1, rfl, rfl, rfl, h1, r1⟩ := trodAll_cons r0
  obtain ⟨v2, vs2, d2, ds2, p2, q2, rfl, rfl, rfl, h2, r2⟩ := trodAll_cons r1
  obtain ⟨rfl, rfl, rfl⟩ := trodAll_nil r2
  obtain rfl : args = #[v0, v1, v2] := by cases args; simp_all
  obtain ⟨rfl, rfl⟩ := trodVars_none hV
  have k0 := h0
  have lt0 : ∀ x ∈ p0, x.block < W.heap.size := by obtain ⟨m, hm⟩ := k0; exact DataW.trod_lt m _ _ _ hm
  have k1 := h1
  have lt1 : ∀ x ∈ p1, x.block < W.heap.size := by obtain ⟨m, hm⟩ := k1; exact DataW.trod_lt m _ _ _ hm
  have k2 := h2
  have lt2 : ∀ x ∈ p2, x.block < W.heap.size := by obtain ⟨m, hm⟩ := k2; exact DataW.trod_lt m _ _ _ hm
  obtain ⟨A0, n0, c0, rfl⟩ := okWide_slice Tryd.underlying22 (hval 0 22 v0 rfl rfl)
  obtain ⟨l0, h0r, e0, g0, u0⟩ := argB h0 (weigh hsz (j := 0) rfl rfl)
  obtain ⟨x1, rfl, rfl, rfl, w1⟩ := open_int Tryd.underlying3 (hval 1 3 v1 rfl rfl) h1
  obtain ⟨A2, n2, c2, rfl⟩ := okWide_slice Tryd.underlying23 (hval 2 23 v2 rfl rfl)
  obtain ⟨l2, h2r, e2, g2, u2⟩ := argI h2 (weigh hsz (j := 2) rfl rfl)
  simp only [List.append_nil, Rows.uptoBulkAll] at hk
  refine (walk A0 n0 c0 l0 x1 A2 n2 c2 l2 W h0r e0 g0 (int_wf w1) h2r e2 g2 (by omega) hE).mono fun e W' ⟨he, bel⟩ => ?_
  subst he
  exact ⟨_, rfl, _, _, _, [], _, [], hW', trodAll_mk1 (shut_bool Tryd.underlying4 _), (trodAll_cons_mk (Below.trod laidOut (by kernel_rfl) (of_decide_eq_true (by kernel_rfl)) k0 bel lt0) (trodAll_cons_mk (Below.trod laidOut (by kernel_rfl) (of_decide_eq_true (by kernel_rfl)) k1 bel lt1) (trodAll_cons_mk (Below.trod laidOut (by kernel_rfl) (of_decide_eq_true (by kernel_rfl)) k2 bel lt2) trodAll_mk0))), rfl, bel.frame _, fun h => by cases h⟩

theorem reads (os : Os) {H : Type} (enc : TypeId × Value → H) : ∃ places, DataW.whole enc Tryd.prog ((World.doorLaid Tryd.prog 400 os).forCall (fun _ _ => 0) ⟨#[], #[.slice none 0 0, .int .i64 0, .slice none 0 0], []⟩).memory Tryd.f4.params.toList Rows.fnReadsEndSpec.vars false (#[.slice none 0 0, .int .i64 0, .slice none 0 0] : Array Value).toList 8 = some ([.nil, .lit (.int .i64 0), .nil], [], places) :=
  ⟨[], by kernel_rfl⟩

set_option maxRecDepth 100000 in
theorem lifted (os : Os) (started : os.Started) (H : Type) (enc : TypeId × Value → H) (F : Stop.Interp) :
    ReturnsInHanded {} Tryd.checked os 4 .any ((Rows.OpenSpec.upto Rows.fnReadsEndSpec).preRow enc Tryd.prog Tryd.f4 Rows.fnReadsEndUptoRow.domain false Rows.fnReadsEndUptoRow.laid) (((Rows.OpenSpec.upto Rows.fnReadsEndSpec).at F).post enc Tryd.prog Tryd.f4 false true false false) := by
  obtain ⟨places, hx⟩ := reads os enc
  refine returnsInHanded_of_row (C := Tryd.checked) (s := Rows.OpenSpec.upto Rows.fnReadsEndSpec) own started (by kernel_rfl) Tryd.func4
    (witness_row_atRef (enc := enc) (C := Tryd.checked) false (World.doorLaid Tryd.prog 400 os) #[.slice none 0 0, .int .i64 0, .slice none 0 0] rfl (by kernel_rfl) (by kernel_rfl) (by kernel_rfl)
      (OpenSpec.preRow_of_cond 8 hx (by kernel_rfl) (fun k hk => by cases hk; kernel_rfl) (by kernel_rfl) (door_met os _))) ?_
  intro W base args ds gs before hval hW _ hk hsz hL _ _
  exact contract H enc W base args ds gs before hval hW hsz (of_decide_eq_true (hk _ rfl)) (errIs_of hL)

theorem over : Rows.FnReadsEndUptoSaid :=
  OpenClaim.holds_of_cond 4 Tryd.f4 rfl rfl rfl rfl rfl rfl rfl ⟨rfl, rfl, rfl, rfl, rfl⟩ rfl rfl rfl rfl rfl (by kernel_rfl) Tryd.func4 (by kernel_rfl)
    (of_decide_eq_true (by kernel_rfl)) (by unfold Func.isWrapper; first | (rw [if_pos (by decide +kernel)]; kernel_rfl) | (rw [if_neg (by decide +kernel)]; exact ⟨rfl, rfl⟩))
    (fun os started H enc _ F => by rw [OpenClaim.pre_eq_preRow]; exact lifted os started H enc F)

theorem plain (f : FuncId) (fn : Func) (hf : Tryd.pinned.checked.prog.funcNamed Rows.fnReadsEndUptoRow.func = some f) (hfn : Tryd.pinned.checked.prog.funcs[f]? = some fn) :
    true = Tryd.pinned.checked.prog.looks [] ∧ ∀ (j : Nat) t, fn.params[j]? = some t → Tryd.pinned.checked.prog.wantsStandIn t = false := by
  obtain rfl : f = 4 := Option.some.inj ((show Tryd.prog.funcNamed Rows.fnReadsEndUptoRow.func = some 4 by kernel_rfl).symm.trans hf) |>.symm
  obtain rfl : fn = Tryd.f4 := (Option.some.inj (Tryd.func4.symm.trans hfn)).symm
  refine ⟨by kernel_rfl, fun j t ht => ?_⟩
  rw [Tryd.params4] at ht
  have hm := Array.mem_of_getElem? ht
  simp at hm
  first
    | (subst hm; exact (show Tryd.prog.wantsStandIn _ = false by kernel_rfl))
    | (rcases hm with rfl | rfl <;> exact (show Tryd.prog.wantsStandIn _ = false by kernel_rfl))
    | (rcases hm with rfl | rfl | rfl <;> exact (show Tryd.prog.wantsStandIn _ = false by kernel_rfl))

theorem proved : Rows.FnReadsEndUptoCardSaid :=
  Claim7.holds_tied_plain_at .later [] _ _ _ _ over (fun _ h => by cases h) (by kernel_rfl) (fun _ h => by cases h) fnReadsEndUpto_row_tie rfl ⟨rfl, rfl⟩ (by kernel_rfl) rfl plain (by kernel_rfl)
end Go.Proofs.YthldocgabpbgmaaDoor.fnReadsEnd
