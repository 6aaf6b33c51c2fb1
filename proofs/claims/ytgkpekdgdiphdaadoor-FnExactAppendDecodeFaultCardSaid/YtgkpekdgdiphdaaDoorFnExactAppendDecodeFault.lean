/-
  FnExactAppendDecodeFault: AppendDecode puts what is decoded of any text behind the buffer, and tells the fault of the reference, for every argument that the form reaches; encoding/hex.ErrLength starts as the program lays it.
-/
import Derived.Test.YtgkpekdgdiphdaaDoorCommon
import Derived.Test.YtgkpekdgdiphdaaDoorSpecDec2
import Derived.Test.YtgkpekdgdiphdaaDoorAppDec
import Derived.Test.YtgkpekdgdiphdaaDoorLaid
namespace Go.Proofs.YtgkpekdgdiphdaaDoor.fnExactAppendDecodeFault
open Go.ChangeShapes Go.WideShapes Go.ChangeAt Go.RowKit Go.Lib
open Go.ChangeMaps (open_string shut_string)
set_option linter.unusedVariables false



set_option maxHeartbeats 1000000 in
set_option maxRecDepth 100000 in
theorem walk (A0 : Option Addr) (n0 c0 : Nat) (l0 : List UInt8) (A1 : Option Addr) (n1 c1 : Nat) (l1 : List UInt8) (w : World) (h0 : RB w A0 n0 l0) (e0 : n0 ≤ c0) (g0 : c0 ≤ 140737488351232) (h1 : RB w A1 n1 l1) (e1 : n1 ≤ c1) (g1 : c1 ≤ 140737488351232) (hE : ErrIs w) :
    Calls Tryd.prog 5 #[.slice A0 n0 c0, .slice A1 n1 c1] w fun e w' => e = .returned (.bool true) ∧ Below w.heap.size w w' := by
  obtain ⟨ea, hE⟩ := hE
  have HE := Lib.hid hE
  have HB0 := Lib.hid h0
  have HB1 := Lib.hid h1
  clear hE h0 h1
  go_enter Tryd.func5, Tryd.ntmps5
  go_wp2_with fail
  refine (implAppendDecode _ _ _ l0 _ _ _ l1 _ ea HB0.out HB1.out (by omega) (by omega) HE.out).mono ?_
  rintro e w1 ⟨A, N, c, b0, b1, b2, rfl, hN, hc1, hc2, hR, hd, hb0, hb1, hbb2, hbw⟩
  have hB := Lib.hid (hbw.alloc hbw.size (.cells #[.bool b0, .bool b1, .int .u8 b2] 24))
  have HR := Lib.hid (hR.out.alloc (.cells #[.bool b0, .bool b1, .int .u8 b2] 24))
  have HC0 : Hid ((w1.alloc (.cells #[.bool b0, .bool b1, .int .u8 b2] 24)).cell? ⟨w1.heap.size, 0, none⟩ = some (.bool b0)) := by unfold Hid; simp [go_sem]
  have HC1 : Hid ((w1.alloc (.cells #[.bool b0, .bool b1, .int .u8 b2] 24)).cell? ⟨w1.heap.size, 1, none⟩ = some (.bool b1)) := by unfold Hid; simp [go_sem]
  have HC2 : Hid ((w1.alloc (.cells #[.bool b0, .bool b1, .int .u8 b2] 24)).cell? ⟨w1.heap.size, 2, none⟩ = some (.int .u8 b2)) := by unfold Hid; simp [go_sem]
  have HS := Lib.hid ((HB1.out.below hbw).alloc (.cells #[.bool b0, .bool b1, .int .u8 b2] 24))
  have HT := Lib.hid ((HB0.out.below hbw).alloc (.cells #[.bool b0, .bool b1, .int .u8 b2] 24))
  clear hbw hR
  go_wp2_with fail
  generalize hW : w1.alloc (.cells #[.bool b0, .bool b1, .int .u8 b2] 24) = W1 at hB HR HC0 HC1 HC2 HS HT ⊢
  have hsz1 : Hid (w1.heap.size < W1.heap.size) := by unfold Hid; rw [← hW]; simp
  clear hW
  refine (specDecode _ _ _ _ _ HS.out (by omega)).mono ?_
  rintro e w2 ⟨X, m, d, d0, d1, d2, rfl, gr, gm, gd1, gd2, gb0, gb1, gb2, gbw⟩
  have hsz2 : w1.heap.size < w2.heap.size := by have := gbw.size; have := hsz1.out; omega
  have hcell0 : w2.cell? ⟨w1.heap.size, 0, none⟩ = some (.bool b0) := (gbw.cell (p := ⟨w1.heap.size, 0, none⟩) hsz1.out).trans HC0.out
  have hcell1 : w2.cell? ⟨w1.heap.size, 1, none⟩ = some (.bool b1) := (gbw.cell (p := ⟨w1.heap.size, 1, none⟩) hsz1.out).trans HC1.out
  have hcell2 : w2.cell? ⟨w1.heap.size, 2, none⟩ = some (.int .u8 b2) := (gbw.cell (p := ⟨w1.heap.size, 2, none⟩) hsz1.out).trans HC2.out
  have HRa := Lib.hid (HR.out.below gbw)
  have HR0 := Lib.hid (HT.out.below gbw)
  have hm : m ≤ n1 / 2 := by have h1 := Hx.decode_len l1; have h2 := gm.out; have h3 := HB1.out.1; rw [h2, h3] at h1; omega
  have hB2 := Lib.hid (hB.out.trans (gbw.mono hB.out.size))
  have hF := Lib.hid ((Below.refl _ w2).alloc (Nat.le_refl _) (.cells #[.bool d0, .bool d1, .int .u8 d2] 31))
  have q0 : (b0 == d0) = true := by rw [hb0.out, gb0.out]; simp
  have q1 : (b1 == d1) = true := by rw [hb1.out, gb1.out]; simp
  have q2 : (b2 == d2) = true := by rw [hbb2.out, gb2.out]; simp
  clear gbw
  have hF2 := Lib.hid (hF.out.alloc hF.out.size (.cells #[.bool b0, .bool b1, .int .u8 b2] 24))
  have hF3 := Lib.hid (hF2.out.alloc hF2.out.size (.cells #[.bool d0, .bool d1, .int .u8 d2] 31))
  have hBs := Lib.hid (hF3.out.alloc hF3.out.size (.cells #[] 5))
  have HO0 : Hid (OB ((((w2.alloc (.cells #[.bool d0, .bool d1, .int .u8 d2] 31)).alloc (.cells #[.bool b0, .bool b1, .int .u8 b2] 24)).alloc (.cells #[.bool d0, .bool d1, .int .u8 d2] 31)).alloc (.cells #[] 5)) w2.heap.size (some ⟨w2.heap.size + 1 + 1 + 1, 0, none⟩) 0 0 []) := by
    have := OB.made (((w2.alloc (.cells #[.bool d0, .bool d1, .int .u8 d2] 31)).alloc (.cells #[.bool b0, .bool b1, .int .u8 b2] 24)).alloc (.cells #[.bool d0, .bool d1, .int .u8 d2] 31)) w2.heap.size hF3.out.size #[] (by simp)
    simpa [Hid] using this
  go_wp2_with (first
    | (go_at_call 12; go_in)
    | (at_builtin; refine wpList_appBg (by rfl) (.tmp 25) (.tmp 26) rfl w2.heap.size 0 0 (some ⟨w2.heap.size + 1 + 1 + 1, 0, none⟩) [] rfl (by exact HO0.out) A0 n0 c0 l0 rfl (by exact HR0.out.below hBs.out) (by omega) (by exact hBs.out.size) ?_; intro A4 c4 w4 hown1 hg1 hat1; refine Hid.out ?_))
  refine Lib.hid ?_
  have hb4 : Hid (Below w2.heap.size w2 w4) := HO0.out.grows hBs.out hg1 (Nat.le_refl _) hBs.out.size
  simp only [Nat.zero_add, List.nil_append] at hown1 ⊢
  have HO1 := Lib.hid hown1
  clear hown1 hg1 hat1
  go_wp2_with (at_builtin; refine wpList_appBg (by rfl) (.tmp 27) (.tmp 28) rfl w2.heap.size n0 c4 A4 l0 rfl (by exact HO1.out) X m d (Hx.decode l1).1 rfl (by exact gr.out.below hb4.out) (by omega) (by exact hb4.out.size) ?_; intro A5 c5 w5 hown2 hg2 hat2; refine Hid.out ?_)
  refine Lib.hid ?_
  have hb5 : Hid (Below w2.heap.size w2 w5) := HO1.out.grows hb4.out hg2 (Nat.le_refl _) hb4.out.size
  have HQ := Lib.hid hown2.rb
  have HP := Lib.hid (HRa.out.below hb5.out)
  clear hown2 hg2 hat2
  go_wp2_with (go_at_call 9; refine (same_any _ _ _ _ _ _ _ _ _ HP.out HQ.out).mono ?_; rintro e w6 ⟨rfl, rfl⟩)
  go_ret
  exact ⟨ret_true (by simp), hB2.out.trans (hb5.out.mono hB2.out.size)⟩

/-- What the walk gives, said of whatever the row reads. -/
theorem contract (H : Type) (enc : TypeId × Value → H) (W : World) (base : Nat) (args : Array Value) (ds gs : List (DataW H)) (before : List MemPlace)
    (hval : ∀ (j : Nat) t v, Tryd.f5.params[j]? = some t → args[j]? = some v → Value.okWide Tryd.prog W .any base t v)
    (hW : DataW.Whole enc Tryd.prog Tryd.f5.params.toList Rows.fnExactAppendDecodeFaultSpec.vars false W args.toList ds gs before)
    (hsz : (DataW.weightsEach Tryd.prog (Tryd.f5.params.toList ++ Rows.fnExactAppendDecodeFaultSpec.plain.varTypes Tryd.prog) (ds ++ gs)).all (· ≤ reachBytes) = true) (hE : ErrIs W) :
    Calls Tryd.prog 5 args W fun e W' => ∃ v, e = .returned v ∧ Rows.fnExactAppendDecodeFaultSpec.post enc Tryd.prog Tryd.f5 false true false false W args v W' := by
  have hW' := hW
  obtain ⟨p, q, hA0, hV, rfl, _, _⟩ := hW
  have hA : DataW.TrodAll enc Tryd.prog W 0 (fun _ => true) true Tryd.f5.params.toList args.toList ds p := hA0
  clear hA0
  rw [Tryd.params5] at hA hval hsz
  obtain ⟨v0, vs0, d0, ds0, p0, q0, hargs, rfl, rfl, h0, r0⟩ := trodAll_cons hA
  obtain ⟨v1, vs1, d1, ds1, p1, q1, rfl, rfl, rfl, h1, r1⟩ := trodAll_cons r0
  obtain ⟨rfl, rfl, rfl⟩ := trodAll_nil r1
  obtain rfl : args = #[v0, v1] := by cases args; simp_all
  obtain ⟨rfl, rfl⟩ := trodVars_none hV
  have k0 := h0
  have lt0 : ∀ x ∈ p0, x.block < W.heap.size := by obtain ⟨m, hm⟩ := k0; exact DataW.trod_lt m _ _ _ hm
  have k1 := h1
  have lt1 : ∀ x ∈ p1, x.block < W.heap.size := by obtain ⟨m, hm⟩ := k1; exact DataW.trod_lt m _ _ _ hm
  obtain ⟨A0, n0, c0, rfl⟩ := okWide_slice Tryd.underlying22 (hval 0 22 v0 rfl rfl)
  obtain ⟨l0, h0r, e0, g0, u0⟩ := argB h0 (weigh hsz (j := 0) rfl rfl)
  obtain ⟨A1, n1, c1, rfl⟩ := okWide_slice Tryd.underlying22 (hval 1 22 v1 rfl rfl)
  obtain ⟨l1, h1r, e1, g1, u1⟩ := argB h1 (weigh hsz (j := 1) rfl rfl)
  refine (walk A0 n0 c0 l0 A1 n1 c1 l1 W h0r e0 g0 h1r e1 g1 hE).mono fun e W' ⟨he, bel⟩ => ?_
  subst he
  exact ⟨_, rfl, _, _, _, [], _, [], hW', trodAll_mk1 (shut_bool Tryd.underlying4 _), (trodAll_cons_mk (Below.trod laidOut (by kernel_rfl) (of_decide_eq_true (by kernel_rfl)) k0 bel lt0) (trodAll_cons_mk (Below.trod laidOut (by kernel_rfl) (of_decide_eq_true (by kernel_rfl)) k1 bel lt1) trodAll_mk0)), rfl, bel.frame _, fun h => by cases h⟩

theorem reads (os : Os) {H : Type} (enc : TypeId × Value → H) : ∃ places, DataW.whole enc Tryd.prog ((World.doorLaid Tryd.prog 400 os).forCall (fun _ _ => 0) ⟨#[], #[.slice none 0 0, .slice none 0 0], []⟩).memory Tryd.f5.params.toList Rows.fnExactAppendDecodeFaultSpec.vars false (#[.slice none 0 0, .slice none 0 0] : Array Value).toList 8 = some ([.nil, .nil], [], places) :=
  ⟨[], by kernel_rfl⟩

set_option maxRecDepth 100000 in
theorem lifted (os : Os) (started : os.Started) (H : Type) (enc : TypeId × Value → H) (F : Stop.Interp) :
    ReturnsInHanded {} Tryd.checked os 5 .any ((OpenSpec.ofChange Rows.fnExactAppendDecodeFaultSpec).preRow enc Tryd.prog Tryd.f5 Rows.fnExactAppendDecodeFaultRow.domain false Rows.fnExactAppendDecodeFaultRow.laid) (((OpenSpec.ofChange Rows.fnExactAppendDecodeFaultSpec).at F).post enc Tryd.prog Tryd.f5 false true false false) := by
  obtain ⟨places, hx⟩ := reads os enc
  refine returnsInHanded_of_row (C := Tryd.checked) (s := OpenSpec.ofChange Rows.fnExactAppendDecodeFaultSpec) own started (by kernel_rfl) Tryd.func5
    (witness_row_atRef (enc := enc) (C := Tryd.checked) false (World.doorLaid Tryd.prog 400 os) #[.slice none 0 0, .slice none 0 0] rfl (by kernel_rfl) (by kernel_rfl) (by kernel_rfl)
      (OpenSpec.preRow_of_cond 8 hx (by kernel_rfl) (fun k hk => by cases hk) (by kernel_rfl) (door_met os _))) ?_
  intro W base args ds gs before hval hW _ _ hsz hL _ _
  exact contract H enc W base args ds gs before hval hW hsz (errIs_of hL)

theorem over : Rows.FnExactAppendDecodeFaultSaid :=
  OpenClaim.holds_of_cond 5 Tryd.f5 rfl rfl rfl rfl rfl rfl rfl ⟨rfl, rfl, rfl, rfl, rfl⟩ rfl rfl rfl rfl rfl (by kernel_rfl) Tryd.func5 (by kernel_rfl)
    (of_decide_eq_true (by kernel_rfl)) (by unfold Func.isWrapper; first | (rw [if_pos (by decide +kernel)]; kernel_rfl) | (rw [if_neg (by decide +kernel)]; exact ⟨rfl, rfl⟩))
    (fun os started H enc _ F => by rw [OpenClaim.pre_eq_preRow]; exact lifted os started H enc F)

theorem plain (f : FuncId) (fn : Func) (hf : Tryd.pinned.checked.prog.funcNamed Rows.fnExactAppendDecodeFaultRow.func = some f) (hfn : Tryd.pinned.checked.prog.funcs[f]? = some fn) :
    true = Tryd.pinned.checked.prog.looks [] ∧ ∀ (j : Nat) t, fn.params[j]? = some t → Tryd.pinned.checked.prog.wantsStandIn t = false := by
  obtain rfl : f = 5 := Option.some.inj ((show Tryd.prog.funcNamed Rows.fnExactAppendDecodeFaultRow.func = some 5 by kernel_rfl).symm.trans hf) |>.symm
  obtain rfl : fn = Tryd.f5 := (Option.some.inj (Tryd.func5.symm.trans hfn)).symm
  refine ⟨by kernel_rfl, fun j t ht => ?_⟩
  rw [Tryd.params5] at ht
  have hm := Array.mem_of_getElem? ht
  simp at hm
  first
    | (subst hm; exact (show Tryd.prog.wantsStandIn _ = false by kernel_rfl))
    | (rcases hm with rfl | rfl <;> exact (show Tryd.prog.wantsStandIn _ = false by kernel_rfl))
    | (rcases hm with rfl | rfl | rfl <;> exact (show Tryd.prog.wantsStandIn _ = false by kernel_rfl))
    | (rcases hm with rfl | rfl | rfl | rfl <;> exact (show Tryd.prog.wantsStandIn _ = false by kernel_rfl))

theorem proved : Rows.FnExactAppendDecodeFaultCardSaid :=
  Claim7.holds_tied_plain_at .later [] _ _ _ _ over (fun _ h => by cases h) (by kernel_rfl) (fun _ h => by cases h) fnExactAppendDecodeFault_row_tie rfl ⟨rfl, rfl⟩ (by kernel_rfl) rfl plain (by kernel_rfl)
end Go.Proofs.YtgkpekdgdiphdaaDoor.fnExactAppendDecodeFault
