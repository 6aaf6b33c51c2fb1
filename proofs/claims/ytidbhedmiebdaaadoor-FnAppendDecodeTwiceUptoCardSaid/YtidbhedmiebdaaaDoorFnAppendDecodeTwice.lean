/-
  FnAppendDecodeTwice: what is appended encoded is decoded again by AppendDecode, where the arguments hold together at most 1048576 values and letters; encoding/hex.ErrLength starts as the program lays it.
-/
import Derived.Test.YtidbhedmiebdaaaDoorCommon
import Derived.Test.YtidbhedmiebdaaaDoorDigit
import Derived.Test.YtidbhedmiebdaaaDoorAppDec
import Derived.Test.YtidbhedmiebdaaaDoorAppEnc
import Derived.Test.YtidbhedmiebdaaaDoorLaid
namespace Go.Proofs.YtidbhedmiebdaaaDoor.fnAppendDecodeTwice
open Go.ChangeShapes Go.WideShapes Go.ChangeAt Go.RowKit Go.Lib
open Go.ChangeMaps (open_string shut_string)
set_option linter.unusedVariables false

theorem dec_enc (l : List UInt8) : Hx.decode (Hx.encode l) = (l, .ok) := by
  have := Hex.decode_encode_append l []
  rw [List.append_nil] at this
  rw [this]
  simp [Hx.decode]

set_option maxHeartbeats 1000000 in
set_option maxRecDepth 100000 in
theorem walk (A0 : Option Addr) (n0 c0 : Nat) (l0 : List UInt8) (A1 : Option Addr) (n1 c1 : Nat) (l1 : List UInt8) (w : World) (h0 : RB w A0 n0 l0) (e0 : n0 ≤ c0) (g0 : c0 ≤ 140737488351232) (h1 : RB w A1 n1 l1) (e1 : n1 ≤ c1) (g1 : c1 ≤ 140737488351232) (hk : c0 + c1 ≤ 1048576) (hE : ErrIs w) :
    Calls Tryd.prog 12 #[.slice A0 n0 c0, .slice A1 n1 c1] w fun e w' => e = .returned (.bool true) ∧ Below w.heap.size w w' := by
  obtain ⟨ea, hE⟩ := hE
  have HE := Lib.hid hE
  have HB0 := Lib.hid h0
  have HB1 := Lib.hid h1
  clear hE h0 h1
  obtain ⟨j, hj⟩ : ∃ j : Nat, j = 0 + 2 * n1 := ⟨_, rfl⟩
  have HJ := Lib.hid hj
  have hjb : j ≤ 140737488355328 := by omega
  clear hj
  go_enter Tryd.func12, Tryd.ntmps12
  go_wp2_with fail
  have hS := Lib.hid ((Below.refl _ w).alloc (Nat.le_refl _) (.cells #[] 5))
  refine (implAppendEncodeK j _ _ _ [] _ _ _ l1 _ HJ.out (RB.nil_ _ _) (HB1.out.below hS.out) hjb).mono ?_
  rintro e w1 ⟨A, c, rfl, hO, hb1⟩
  have hB1 := Lib.hid (hS.out.trans (hb1.mono hS.out.size))
  have HR := Lib.hid hO.out.rb
  rw [List.nil_append] at HR
  have F0 := Lib.hid (HB0.out.below hB1.out)
  have F1 := Lib.hid (HB1.out.below hB1.out)
  have FE := Lib.hid (HE.out.below hB1.out)
  clear hO hb1
  go_wp2_with fail
  refine (implAppendDecode _ _ _ l0 _ _ _ _ _ ea F0.out HR.out (by have := HJ.out; omega) (by omega) FE.out).mono ?_
  rintro e w2 ⟨A2, N, c2, b0, b1, b2, rfl, hN, hc1, hc2, hR, hd, hb0, hb1, hbb2, hbw⟩
  obtain rfl : b0 = false := by rw [hb0.out, dec_enc]; rfl
  rw [dec_enc] at hR
  have hB2 := Lib.hid (hB1.out.trans (hbw.mono hB1.out.size))
  have G0 := Lib.hid (F0.out.below hbw)
  have G1 := Lib.hid (F1.out.below hbw)
  have hF := Lib.hid ((Below.refl _ w2).alloc (Nat.le_refl _) (.cells #[.bool false, .bool b1, .int .u8 b2] 26))
  have hBs := Lib.hid (hF.out.alloc hF.out.size (.cells #[] 5))
  have HO0 : Hid (OB ((w2.alloc (.cells #[.bool false, .bool b1, .int .u8 b2] 26)).alloc (.cells #[] 5)) w2.heap.size (some ⟨w2.heap.size + 1, 0, none⟩) 0 0 []) := by
    have := OB.made (w2.alloc (.cells #[.bool false, .bool b1, .int .u8 b2] 26)) w2.heap.size hF.out.size #[] (by simp)
    simpa [Hid] using this
  clear hbw
  go_wp2_with (at_builtin; refine wpList_appBg (by rfl) (.tmp 20) (.tmp 21) rfl w2.heap.size 0 0 (some ⟨w2.heap.size + 1, 0, none⟩) [] rfl (by exact HO0.out) A0 n0 c0 l0 rfl (by exact G0.out.below hBs.out) (by omega) (by exact hBs.out.size) ?_; intro A4 c4 w4 hown1 hg1 hat1; refine Hid.out ?_)
  refine Lib.hid ?_
  have hb4 : Hid (Below w2.heap.size w2 w4) := HO0.out.grows hBs.out hg1 (Nat.le_refl _) hBs.out.size
  simp only [Nat.zero_add, List.nil_append] at hown1 ⊢
  have HO1 := Lib.hid hown1
  clear hown1 hg1 hat1
  go_wp2_with (at_builtin; refine wpList_appBg (by rfl) (.tmp 22) (.tmp 23) rfl w2.heap.size n0 c4 A4 l0 rfl (by exact HO1.out) A1 n1 c1 l1 rfl (by exact G1.out.below hb4.out) (by omega) (by exact hb4.out.size) ?_; intro A5 c5 w5 hown2 hg2 hat2; refine Hid.out ?_)
  refine Lib.hid ?_
  have hb5 : Hid (Below w2.heap.size w2 w5) := HO1.out.grows hb4.out hg2 (Nat.le_refl _) hb4.out.size
  have HQ := Lib.hid hown2.rb
  have HP := Lib.hid (hR.out.below hb5.out)
  clear hown2 hg2 hat2
  go_wp2_with (go_at_call 17; refine (same_any _ _ _ _ _ _ _ _ _ HP.out HQ.out).mono ?_; rintro e w6 ⟨rfl, rfl⟩)
  go_ret
  exact ⟨ret_true (by simp), hB2.out.trans (hb5.out.mono hB2.out.size)⟩

/-- What the walk gives, said of whatever the row reads. -/
theorem contract (H : Type) (enc : TypeId × Value → H) (W : World) (base : Nat) (args : Array Value) (ds gs : List (DataW H)) (before : List MemPlace)
    (hval : ∀ (j : Nat) t v, Tryd.f12.params[j]? = some t → args[j]? = some v → Value.okWide Tryd.prog W .any base t v)
    (hW : DataW.Whole enc Tryd.prog Tryd.f12.params.toList Rows.fnAppendDecodeTwiceSpec.vars false W args.toList ds gs before)
    (hsz : (DataW.weightsEach Tryd.prog (Tryd.f12.params.toList ++ Rows.fnAppendDecodeTwiceSpec.plain.varTypes Tryd.prog) (ds ++ gs)).all (· ≤ reachBytes) = true) (hk : Rows.uptoBulkAll (ds ++ gs) ≤ 1048576) (hE : ErrIs W) :
    Calls Tryd.prog 12 args W fun e W' => ∃ v, e = .returned v ∧ Rows.fnAppendDecodeTwiceSpec.post enc Tryd.prog Tryd.f12 false true false false W args v W' := by
  have hW' := hW
  obtain ⟨p, q, hA0, hV, rfl, _, _⟩ := hW
  have hA : DataW.TrodAll enc Tryd.prog W 0 (fun _ => true) true Tryd.f12.params.toList args.toList ds p := hA0
  clear hA0
  rw [Tryd.params12] at hA hval hsz
  obtain ⟨v0, vs0, d0, ds0, p0, q0, hargs, rfl, rfl, h0, r0⟩ := trodAll_cons hA
  obtain ⟨v1, vs1, d1, ds1, p1, q1, rfl, rfl, rfl, h1, r1⟩ := trodAll_cons r0
  obtain ⟨rfl, rfl, rfl⟩ := trodAll_nil r1
  obtain rfl : args = #[v0, v1] := by cases args; simp_all
  obtain ⟨rfl, rfl⟩ := trodVars_none hV
  have k0 := h0
  have lt0 : ∀ x ∈ p0, x.block < W.heap.size := by obtain ⟨m, hm⟩ := k0; exact DataW.trod_lt m _ _ _ hm
  have k1 := h1
  have lt1 : ∀ x ∈ p1, x.block < W.heap.size := by obtain ⟨m, hm⟩ := k1; exact DataW.trod_lt m _ _ _ hm
  obtain ⟨A0, n0, c0, rfl⟩ := okWide_slice Tryd.underlying22 (hval 0 22 v0 rfl rfl)
  obtain ⟨l0, h0r, e0, g0, u0⟩ := argB h0 (weigh hsz (j := 0) rfl rfl)
  obtain ⟨A1, n1, c1, rfl⟩ := okWide_slice Tryd.underlying22 (hval 1 22 v1 rfl rfl)
  obtain ⟨l1, h1r, e1, g1, u1⟩ := argB h1 (weigh hsz (j := 1) rfl rfl)
  simp only [List.append_nil, Rows.uptoBulkAll] at hk
  refine (walk A0 n0 c0 l0 A1 n1 c1 l1 W h0r e0 g0 h1r e1 g1 (by omega) hE).mono fun e W' ⟨he, bel⟩ => ?_
  subst he
  exact ⟨_, rfl, _, _, _, [], _, [], hW', trodAll_mk1 (shut_bool Tryd.underlying4 _), (trodAll_cons_mk (Below.trod laidOut (by kernel_rfl) (of_decide_eq_true (by kernel_rfl)) k0 bel lt0) (trodAll_cons_mk (Below.trod laidOut (by kernel_rfl) (of_decide_eq_true (by kernel_rfl)) k1 bel lt1) trodAll_mk0)), rfl, bel.frame _, fun h => by cases h⟩

theorem reads (os : Os) {H : Type} (enc : TypeId × Value → H) : ∃ places, DataW.whole enc Tryd.prog ((World.doorLaid Tryd.prog 400 os).forCall (fun _ _ => 0) ⟨#[], #[.slice none 0 0, .slice none 0 0], []⟩).memory Tryd.f12.params.toList Rows.fnAppendDecodeTwiceSpec.vars false (#[.slice none 0 0, .slice none 0 0] : Array Value).toList 8 = some ([.nil, .nil], [], places) :=
  ⟨[], by kernel_rfl⟩

set_option maxRecDepth 100000 in
theorem lifted (os : Os) (started : os.Started) (H : Type) (enc : TypeId × Value → H) (F : Stop.Interp) :
    ReturnsInHanded {} Tryd.checked os 12 .any ((Rows.OpenSpec.upto Rows.fnAppendDecodeTwiceSpec).preRow enc Tryd.prog Tryd.f12 Rows.fnAppendDecodeTwiceUptoRow.domain false Rows.fnAppendDecodeTwiceUptoRow.laid) (((Rows.OpenSpec.upto Rows.fnAppendDecodeTwiceSpec).at F).post enc Tryd.prog Tryd.f12 false true false false) := by
  obtain ⟨places, hx⟩ := reads os enc
  refine returnsInHanded_of_row (C := Tryd.checked) (s := Rows.OpenSpec.upto Rows.fnAppendDecodeTwiceSpec) own started (by kernel_rfl) Tryd.func12
    (witness_row_atRef (enc := enc) (C := Tryd.checked) false (World.doorLaid Tryd.prog 400 os) #[.slice none 0 0, .slice none 0 0] rfl (by kernel_rfl) (by kernel_rfl) (by kernel_rfl)
      (OpenSpec.preRow_of_cond 8 hx (by kernel_rfl) (fun k hk => by cases hk; kernel_rfl) (by kernel_rfl) (door_met os _))) ?_
  intro W base args ds gs before hval hW _ hk hsz hL _ _
  exact contract H enc W base args ds gs before hval hW hsz (of_decide_eq_true (hk _ rfl)) (errIs_of hL)

theorem over : Rows.FnAppendDecodeTwiceUptoSaid :=
  OpenClaim.holds_of_cond 12 Tryd.f12 rfl rfl rfl rfl rfl rfl rfl ⟨rfl, rfl, rfl, rfl, rfl⟩ rfl rfl rfl rfl rfl (by kernel_rfl) Tryd.func12 (by kernel_rfl)
    (of_decide_eq_true (by kernel_rfl)) (by unfold Func.isWrapper; first | (rw [if_pos (by decide +kernel)]; kernel_rfl) | (rw [if_neg (by decide +kernel)]; exact ⟨rfl, rfl⟩))
    (fun os started H enc _ F => by rw [OpenClaim.pre_eq_preRow]; exact lifted os started H enc F)

theorem plain (f : FuncId) (fn : Func) (hf : Tryd.pinned.checked.prog.funcNamed Rows.fnAppendDecodeTwiceUptoRow.func = some f) (hfn : Tryd.pinned.checked.prog.funcs[f]? = some fn) :
    true = Tryd.pinned.checked.prog.looks [] ∧ ∀ (j : Nat) t, fn.params[j]? = some t → Tryd.pinned.checked.prog.wantsStandIn t = false := by
  obtain rfl : f = 12 := Option.some.inj ((show Tryd.prog.funcNamed Rows.fnAppendDecodeTwiceUptoRow.func = some 12 by kernel_rfl).symm.trans hf) |>.symm
  obtain rfl : fn = Tryd.f12 := (Option.some.inj (Tryd.func12.symm.trans hfn)).symm
  refine ⟨by kernel_rfl, fun j t ht => ?_⟩
  rw [Tryd.params12] at ht
  have hm := Array.mem_of_getElem? ht
  simp at hm
  first
    | (subst hm; exact (show Tryd.prog.wantsStandIn _ = false by kernel_rfl))
    | (rcases hm with rfl | rfl <;> exact (show Tryd.prog.wantsStandIn _ = false by kernel_rfl))
    | (rcases hm with rfl | rfl | rfl <;> exact (show Tryd.prog.wantsStandIn _ = false by kernel_rfl))

theorem proved : Rows.FnAppendDecodeTwiceUptoCardSaid :=
  Claim7.holds_tied_plain_at .later [] _ _ _ _ over (fun _ h => by cases h) (by kernel_rfl) (fun _ h => by cases h) fnAppendDecodeTwiceUpto_row_tie rfl ⟨rfl, rfl⟩ (by kernel_rfl) rfl plain (by kernel_rfl)
end Go.Proofs.YtidbhedmiebdaaaDoor.fnAppendDecodeTwice
