/-
  FnReadsSome: no read gives more than its buffer takes, where the arguments hold together at most 1048576 values and letters; io.EOF and io.ErrUnexpectedEOF start as the program lays them.
-/
import Derived.Test.YthldocgabpbgmaaDoorCommon
import Derived.Test.YthldocgabpbgmaaDoorReadLaws
import Derived.Test.YthldocgabpbgmaaDoorLaid
namespace Go.Proofs.YthldocgabpbgmaaDoor.fnReadsSome
open Go.ChangeShapes Go.WideShapes Go.ChangeAt Go.RowKit Go.Lib
open Go.ChangeMaps (open_string shut_string)
set_option linter.unusedVariables false



set_option maxHeartbeats 1000000 in
set_option maxRecDepth 100000 in
theorem walk (A0 : Option Addr) (n0 c0 : Nat) (l0 : List UInt8) (x1 : Int) (A2 : Option Addr) (n2 c2 : Nat) (l2 : List Int) (w : World) (h0 : RB w A0 n0 l0) (e0 : n0 ≤ c0) (g0 : c0 ≤ 140737488351232) (b1 : -9223372036854775808 ≤ x1 ∧ x1 ≤ 9223372036854775807) (h2 : RI w A2 n2 l2) (e2 : n2 ≤ c2) (g2 : c2 ≤ 140737488351232) (hk : c0 + c2 ≤ 1048576) (hE : ErrIs w) :
    Calls Tryd.prog 6 #[.slice A0 n0 c0, .int .i64 x1, .slice A2 n2 c2] w fun e w' => e = .returned (.bool true) ∧ Below w.heap.size w w' := by
  have HB := Lib.hid h0
  have HI := Lib.hid h2
  have HE := Lib.hid hE
  clear h0 h2 hE
  by_cases hx : x1 < 1
  · go_enter Tryd.func6, Tryd.ntmps6
    go_wp2_with (go_at_call 8; refine (reader_true _ (by exact HE.out)).mono ?_; rintro e w2 ⟨rfl, hb⟩)
    go_ret
    exact ⟨rfl, hb⟩
  · have hx' : 1 ≤ x1 := by omega
    have POS := Lib.hid (positive_any A2 n2 c2 l2 w HI.out (by omega))
    cases hp : pos l2 with
    | false =>
      rw [hp] at POS
      clear hp
      go_enter Tryd.func6, Tryd.ntmps6
      go_wp2_with (first
        | (go_at_call 7; refine POS.out.mono ?_; rintro e w1 ⟨rfl, rfl⟩)
        | (go_at_call 8; refine (reader_true _ (by exact HE.out)).mono ?_; rintro e w2 ⟨rfl, hb⟩))
      go_ret
      exact ⟨rfl, hb⟩
    | true =>
      rw [hp] at POS
      obtain ⟨ks, rfl, hks⟩ := pos_nat l2 hp
      obtain ⟨pc, rfl⟩ : ∃ pc : Nat, x1 = (pc : Int) := ⟨x1.toNat, by omega⟩
      obtain ⟨a, b, hEab⟩ := HE.out
      have DR := Lib.hid (decodeReads A0 n0 c0 l0 pc A2 n2 c2 ks w a b hEab HB.out (by omega) (by omega) HI.out hks (by omega))
      clear hp hks hEab hx
      go_enter Tryd.func6, Tryd.ntmps6
      go_wp2_with (first
        | (go_at_call 7; refine POS.out.mono ?_; rintro e w1 ⟨rfl, rfl⟩)
        | (go_at_call 9; refine DR.out.mono ?_; rintro e w2 ⟨X, c1, Y, d1, rfl, hX, hY, hb2, k1, k2, k3, k4⟩; refine Hid.out ?_))
      refine Lib.hid ?_
      clear POS DR
      have HX : Hid (RP w2 X n2 (Hex.reads pc (Hex.start l0) ks)) := hX
      have HY : Hid (RI w2 Y n2 (Hex.ends pc (Hex.start l0) ks)) := hY
      have HB2 := Lib.hid hb2
      have HE2 := Lib.hid (HE.out.below hb2)
      have HR2 := Lib.hid (HB.out.below hb2)
      have HI2 := Lib.hid (HI.out.below hb2)
      clear hX hY hb2 HB
      go_wp2_with fail
      go_loopw [9] (fun vi wr => ∃ k : Nat, k ≤ n2 ∧ vi = .int .i64 k ∧ Hid (Below w2.heap.size w2 wr)) (fun vi _ => n2 - (intOf vi).toNat)
      case atStart => exact ⟨0, Nat.zero_le _, rfl, Below.refl _ _⟩
      case round =>
        obtain ⟨k, hk, rfl, hbr⟩ := hrel
        have HB3 : Hid (Below w.heap.size w wr) := HB2.out.trans (hbr.out.mono HB2.out.size)
        by_cases hlt : k < n2
        · obtain ⟨bo, oo, r, Xr, mr, cr, rfl, hbo, hr, hco, hRr, hc1, hc2⟩ := HX.out.at_ hlt
          obtain ⟨bz, oz, z, rfl, hbz, hz, hcz⟩ := HI2.out.at_ hlt
          obtain ⟨be, oe, ze, rfl, hbe, hze, hce⟩ := HY.out.at_ hlt
          obtain ⟨K, hK, rfl⟩ : ∃ K : Nat, ks[k]? = some K ∧ (K : Int) = z := by
            rw [List.getElem?_map] at hz
            cases hh : ks[k]? with
            | none => rw [hh] at hz; cases hz
            | some K => rw [hh] at hz; exact ⟨K, rfl, by simpa using hz⟩
          have hrK : (mr : Int) ≤ (K : Int) := by
            have h1 := Hex.some_len pc _ ks k K r hK hr
            rw [hRr.len] at h1
            omega
          have hz3 : ze ≤ 3 := (Hex.some_end pc _ ks k ze hze).2
          have f1 : wr.cell? ⟨bo, oo + k, none⟩ = some (.slice Xr mr cr) := (hbr.out.cell (p := ⟨bo, oo + k, none⟩) hbo).trans hco
          have f2 : wr.cell? ⟨bz, oz + k, none⟩ = some (.int .i64 (K : Int)) := (hbr.out.cell (p := ⟨bz, oz + k, none⟩) hbz).trans hcz
          have f3 : wr.cell? ⟨be, oe + k, none⟩ = some (.int .i64 ze) := (hbr.out.cell (p := ⟨be, oe + k, none⟩) hbe).trans hce
          have gd1 : decide ((K : Int) < (mr : Int)) = false := by simp; omega
          have gd2 : decide (K < mr) = false := by simp; omega
          have gd3 : decide (3 < ze) = false := by simp; omega
          clear hr hco hRr hz hcz hK hze hce
          go_wp2_with fail
          go_quiet (fail)
          go_wp2_with fail
          go_roundw
          case rel => exact ⟨k + 1, by omega, by go_num, ⟨hbr.out.os, hbr.out.tape, hbr.out.output, hbr.out.size, hbr.out.block⟩⟩
          case measure => simp [intOf]; omega
        · have hk2 : k = n2 := by omega
          have HE3 := Lib.hid (HE.out.below HB3.out)
          subst hk2
          go_wp2_with (go_at_call 8; refine (reader_true wr HE3.out).mono ?_; rintro e w6 ⟨rfl, hb6⟩)
          go_ret
          exact ⟨rfl, HB3.out.trans (hb6.mono HB3.out.size)⟩

/-- What the walk gives, said of whatever the row reads. -/
theorem contract (H : Type) (enc : TypeId × Value → H) (W : World) (base : Nat) (args : Array Value) (ds gs : List (DataW H)) (before : List MemPlace)
    (hval : ∀ (j : Nat) t v, Tryd.f6.params[j]? = some t → args[j]? = some v → Value.okWide Tryd.prog W .any base t v)
    (hW : DataW.Whole enc Tryd.prog Tryd.f6.params.toList Rows.fnReadsSomeSpec.vars false W args.toList ds gs before)
    (hsz : (DataW.weightsEach Tryd.prog (Tryd.f6.params.toList ++ Rows.fnReadsSomeSpec.plain.varTypes Tryd.prog) (ds ++ gs)).all (· ≤ reachBytes) = true) (hk : Rows.uptoBulkAll (ds ++ gs) ≤ 1048576) (hE : ErrIs W) :
    Calls Tryd.prog 6 args W fun e W' => ∃ v, e = .returned v ∧ Rows.fnReadsSomeSpec.post enc Tryd.prog Tryd.f6 false true false false W args v W' := by
  have hW' := hW
  obtain ⟨p, q, hA0, hV, rfl, _, _⟩ := hW
  have hA : DataW.TrodAll enc Tryd.prog W 0 (fun _ => true) true Tryd.f6.params.toList args.toList ds p := hA0
  clear hA0
  rw [Tryd.params6] at hA hval hsz
  obtain ⟨v0, vs0, d0, ds0, p0, q0, hargs, rfl, rfl, h0, r0⟩ := trodAll_cons hA
  obtain ⟨v1, vs1, d1, ds1, p1, q1, rfl, rfl, rfl, h1, r1⟩ := trodAll_cons r0
  obtain ⟨v2, vs2, d2, ds2, p2, q2, rfl, rfl, rfl, h2, r2⟩ := trodAll_cons r1
  obtain ⟨rfl, rfl, rfl⟩ := trodAll_nil r2
  obtain rfl : args = #[v0, v1, v2] := by cases args; simp_all
  obtain ⟨rfl, rfl⟩ := trodVars_none hV
  have k0 := h0
  have lt0 : ∀ x ∈ p0, x.block < W.heap.size := by obtain ⟨m, hm⟩ := k0; exact DataW.trod_lt m _ _ _ hm
  have k1 := h1
  have lt1 : ∀ x ∈ p1, x.block < W.heap.size := by obtain ⟨m, hm⟩ := k1; exact DataW.trod_lt m _ _ _ hm
  have k2 := h2
  have lt2 : ∀ x ∈ p2, x.block < W.heap.size := by obtain ⟨m, hm⟩ := k2; exact DataW.trod_lt m _ _ _ hm
  obtain ⟨A0, n0, c0, rfl⟩ := okWide_slice Tryd.underlying22 (hval 0 22 v0 rfl rfl)
  obtain ⟨l0, h0r, e0, g0, u0⟩ := argB h0 (weigh hsz (j := 0) rfl rfl)
  obtain ⟨x1, rfl, rfl, rfl, w1⟩ := open_int Tryd.underlying3 (hval 1 3 v1 rfl rfl) h1
  obtain ⟨A2, n2, c2, rfl⟩ := okWide_slice Tryd.underlying23 (hval 2 23 v2 rfl rfl)
  obtain ⟨l2, h2r, e2, g2, u2⟩ := argI h2 (weigh hsz (j := 2) rfl rfl)
  simp only [List.append_nil, Rows.uptoBulkAll] at hk
  refine (walk A0 n0 c0 l0 x1 A2 n2 c2 l2 W h0r e0 g0 (int_wf w1) h2r e2 g2 (by omega) hE).mono fun e W' ⟨he, bel⟩ => ?_
  subst he
  exact ⟨_, rfl, _, _, _, [], _, [], hW', trodAll_mk1 (shut_bool Tryd.underlying4 _), (trodAll_cons_mk (Below.trod laidOut (by kernel_rfl) (of_decide_eq_true (by kernel_rfl)) k0 bel lt0) (trodAll_cons_mk (Below.trod laidOut (by kernel_rfl) (of_decide_eq_true (by kernel_rfl)) k1 bel lt1) (trodAll_cons_mk (Below.trod laidOut (by kernel_rfl) (of_decide_eq_true (by kernel_rfl)) k2 bel lt2) trodAll_mk0))), rfl, bel.frame _, fun h => by cases h⟩

theorem reads (os : Os) {H : Type} (enc : TypeId × Value → H) : ∃ places, DataW.whole enc Tryd.prog ((World.doorLaid Tryd.prog 400 os).forCall (fun _ _ => 0) ⟨#[], #[.slice none 0 0, .int .i64 0, .slice none 0 0], []⟩).memory Tryd.f6.params.toList Rows.fnReadsSomeSpec.vars false (#[.slice none 0 0, .int .i64 0, .slice none 0 0] : Array Value).toList 8 = some ([.nil, .lit (.int .i64 0), .nil], [], places) :=
  ⟨[], by kernel_rfl⟩

set_option maxRecDepth 100000 in
theorem lifted (os : Os) (started : os.Started) (H : Type) (enc : TypeId × Value → H) (F : Stop.Interp) :
    ReturnsInHanded {} Tryd.checked os 6 .any ((Rows.OpenSpec.upto Rows.fnReadsSomeSpec).preRow enc Tryd.prog Tryd.f6 Rows.fnReadsSomeUptoRow.domain false Rows.fnReadsSomeUptoRow.laid) (((Rows.OpenSpec.upto Rows.fnReadsSomeSpec).at F).post enc Tryd.prog Tryd.f6 false true false false) := by
  obtain ⟨places, hx⟩ := reads os enc
  refine returnsInHanded_of_row (C := Tryd.checked) (s := Rows.OpenSpec.upto Rows.fnReadsSomeSpec) own started (by kernel_rfl) Tryd.func6
    (witness_row_atRef (enc := enc) (C := Tryd.checked) false (World.doorLaid Tryd.prog 400 os) #[.slice none 0 0, .int .i64 0, .slice none 0 0] rfl (by kernel_rfl) (by kernel_rfl) (by kernel_rfl)
      (OpenSpec.preRow_of_cond 8 hx (by kernel_rfl) (fun k hk => by cases hk; kernel_rfl) (by kernel_rfl) (door_met os _))) ?_
  intro W base args ds gs before hval hW _ hk hsz hL _ _
  exact contract H enc W base args ds gs before hval hW hsz (of_decide_eq_true (hk _ rfl)) (errIs_of hL)

theorem over : Rows.FnReadsSomeUptoSaid :=
  OpenClaim.holds_of_cond 6 Tryd.f6 rfl rfl rfl rfl rfl rfl rfl ⟨rfl, rfl, rfl, rfl, rfl⟩ rfl rfl rfl rfl rfl (by kernel_rfl) Tryd.func6 (by kernel_rfl)
    (of_decide_eq_true (by kernel_rfl)) (by unfold Func.isWrapper; first | (rw [if_pos (by decide +kernel)]; kernel_rfl) | (rw [if_neg (by decide +kernel)]; exact ⟨rfl, rfl⟩))
    (fun os started H enc _ F => by rw [OpenClaim.pre_eq_preRow]; exact lifted os started H enc F)

theorem plain (f : FuncId) (fn : Func) (hf : Tryd.pinned.checked.prog.funcNamed Rows.fnReadsSomeUptoRow.func = some f) (hfn : Tryd.pinned.checked.prog.funcs[f]? = some fn) :
    true = Tryd.pinned.checked.prog.looks [] ∧ ∀ (j : Nat) t, fn.params[j]? = some t → Tryd.pinned.checked.prog.wantsStandIn t = false := by
  obtain rfl : f = 6 := Option.some.inj ((show Tryd.prog.funcNamed Rows.fnReadsSomeUptoRow.func = some 6 by kernel_rfl).symm.trans hf) |>.symm
  obtain rfl : fn = Tryd.f6 := (Option.some.inj (Tryd.func6.symm.trans hfn)).symm
  refine ⟨by kernel_rfl, fun j t ht => ?_⟩
  rw [Tryd.params6] at ht
  have hm := Array.mem_of_getElem? ht
  simp at hm
  first
    | (subst hm; exact (show Tryd.prog.wantsStandIn _ = false by kernel_rfl))
    | (rcases hm with rfl | rfl <;> exact (show Tryd.prog.wantsStandIn _ = false by kernel_rfl))
    | (rcases hm with rfl | rfl | rfl <;> exact (show Tryd.prog.wantsStandIn _ = false by kernel_rfl))

theorem proved : Rows.FnReadsSomeUptoCardSaid :=
  Claim7.holds_tied_plain_at .later [] _ _ _ _ over (fun _ h => by cases h) (by kernel_rfl) (fun _ h => by cases h) fnReadsSomeUpto_row_tie rfl ⟨rfl, rfl⟩ (by kernel_rfl) rfl plain (by kernel_rfl)
end Go.Proofs.YthldocgabpbgmaaDoor.fnReadsSome
