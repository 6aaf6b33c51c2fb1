/-
  FnDecodeJoinAll: behind the text of any bytes, any text is decoded as by itself, with its fault, for every argument that the form reaches; encoding/hex.ErrLength starts as the program lays it.
-/
import Derived.Test.YtgkpekdgdiphdaaDoorCommon
import Derived.Test.YtgkpekdgdiphdaaDoorDigit
import Derived.Test.YtgkpekdgdiphdaaDoorAppend
import Derived.Test.YtgkpekdgdiphdaaDoorLaid
namespace Go.Proofs.YtgkpekdgdiphdaaDoor.fnDecodeJoinAll
open Go.ChangeShapes Go.WideShapes Go.ChangeAt Go.RowKit Go.Lib
open Go.ChangeMaps (open_string shut_string)
set_option linter.unusedVariables false

theorem app_list (s t : ByteArray) : (s ++ t).toList = s.toList ++ t.toList := by
  rw [Go.ByteArray.toList_eq, Go.ByteArray.toList_eq, Go.ByteArray.toList_eq]
  simp

set_option maxHeartbeats 1000000 in
set_option maxRecDepth 100000 in
theorem walk (A0 : Option Addr) (n0 c0 : Nat) (l0 : List UInt8) (s1 : ByteArray) (w : World) (h0 : RB w A0 n0 l0) (e0 : n0 ≤ c0) (g0 : c0 ≤ 140737488351232) (g1 : s1.size ≤ 140737488351232) (hE : ErrIs w) :
    Calls Tryd.prog 3 #[.slice A0 n0 c0, .string s1] w fun e w' => e = .returned (.bool true) ∧ Below w.heap.size w w' := by
  obtain ⟨ea, hE⟩ := hE
  have HE := Lib.hid hE
  have HB0 := Lib.hid h0
  clear hE h0
  go_enter Tryd.func3, Tryd.ntmps3
  go_wp2_with fail
  refine (decText s1 _ ea HE.out (by omega)).mono ?_
  rintro e w1 ⟨A, n, c, b0, b1, b2, rfl, hr, hn, hc1, hc2, hn2, hb0, hb1, hbb2, hbw, hE1⟩
  have hB := Lib.hid (hbw.alloc hbw.size (.cells #[.bool b0, .bool b1, .int .u8 b2] 24))
  have HR := Lib.hid (hr.out.alloc (.cells #[.bool b0, .bool b1, .int .u8 b2] 24))
  have HC0 : Hid ((w1.alloc (.cells #[.bool b0, .bool b1, .int .u8 b2] 24)).cell? ⟨w1.heap.size, 0, none⟩ = some (.bool b0)) := by unfold Hid; simp [go_sem]
  have HC1 : Hid ((w1.alloc (.cells #[.bool b0, .bool b1, .int .u8 b2] 24)).cell? ⟨w1.heap.size, 1, none⟩ = some (.bool b1)) := by unfold Hid; simp [go_sem]
  have HC2 : Hid ((w1.alloc (.cells #[.bool b0, .bool b1, .int .u8 b2] 24)).cell? ⟨w1.heap.size, 2, none⟩ = some (.int .u8 b2)) := by unfold Hid; simp [go_sem]
  have HE2 := Lib.hid (hE1.out.below ((Below.refl _ w1).alloc (Nat.le_refl _) (.cells #[.bool b0, .bool b1, .int .u8 b2] 24)))
  clear hbw
  go_wp2_with fail
  refine (encodeText _ _ _ l0 _ (HB0.out.below hB.out) (by omega)).mono ?_
  rintro e w2 ⟨t, rfl, ht, hzt, hbt⟩
  have hszt := Lib.hid (show (t ++ s1).size = t.size + s1.size by simp)
  have hsumb : t.size + s1.size ≤ 9223372036854775807 := by have := hzt.out; omega
  have k0 : w2.cell? ⟨w1.heap.size, 0, none⟩ = some (.bool b0) := (hbt.cell (p := ⟨w1.heap.size, 0, none⟩) (by simp)).trans HC0.out
  have k1 : w2.cell? ⟨w1.heap.size, 1, none⟩ = some (.bool b1) := (hbt.cell (p := ⟨w1.heap.size, 1, none⟩) (by simp)).trans HC1.out
  have k2 : w2.cell? ⟨w1.heap.size, 2, none⟩ = some (.int .u8 b2) := (hbt.cell (p := ⟨w1.heap.size, 2, none⟩) (by simp)).trans HC2.out
  have hszw2 : w1.heap.size < w2.heap.size := by have := hbt.size; simp at this; omega
  have hB2 := Lib.hid (hB.out.trans (hbt.mono hB.out.size))
  have HR2 := Lib.hid (HR.out.below hbt)
  have HE3 := Lib.hid (HE2.out.below hbt)
  clear hbt
  go_wp2_with fail
  refine (decText (t ++ s1) _ ea HE3.out (by rw [hszt.out]; have := hzt.out; omega)).mono ?_
  rintro e w3 ⟨A', n', c', b0', b1', b2', rfl, hr', hn', hc1', hc2', hn2', hb0', hb1', hbb2', hbw', hE1'⟩
  have hdec : Hx.decode (t ++ s1).toList = (l0 ++ (Hx.decode s1.toList).1, (Hx.decode s1.toList).2) := by rw [app_list, ht.out, Hex.decode_encode_append]
  obtain rfl : b0' = b0 := by rw [hb0'.out, hb0.out, hdec]
  obtain rfl : b1' = b1 := by rw [hb1'.out, hb1.out, hdec]
  obtain rfl : b2' = b2 := by rw [hbb2'.out, hbb2.out, hdec]
  have hr2 := hr'.out
  rw [hdec] at hr2
  clear hdec
  have m0 : w3.cell? ⟨w1.heap.size, 0, none⟩ = some (.bool b0') := (hbw'.cell (p := ⟨w1.heap.size, 0, none⟩) hszw2).trans k0
  have m1 : w3.cell? ⟨w1.heap.size, 1, none⟩ = some (.bool b1') := (hbw'.cell (p := ⟨w1.heap.size, 1, none⟩) hszw2).trans k1
  have m2 : w3.cell? ⟨w1.heap.size, 2, none⟩ = some (.int .u8 b2') := (hbw'.cell (p := ⟨w1.heap.size, 2, none⟩) hszw2).trans k2
  have hszw3 : w1.heap.size < w3.heap.size := by have := hbw'.size; omega
  have hB3 := Lib.hid (hB2.out.trans (hbw'.mono hB2.out.size))
  have HR3 := Lib.hid (HR2.out.below hbw')
  have HRn := Lib.hid hr2
  clear hr2 hbw' k0 k1 k2
  have hF3 := Lib.hid ((Below.refl _ w3).alloc (Nat.le_refl _) (.cells #[.bool b0', .bool b1', .int .u8 b2'] 24))
  have hBs := Lib.hid (hF3.out.alloc hF3.out.size (.cells #[] 5))
  have HO0 : Hid (OB ((w3.alloc (.cells #[.bool b0', .bool b1', .int .u8 b2'] 24)).alloc (.cells #[] 5)) w3.heap.size (some ⟨w3.heap.size + 1, 0, none⟩) 0 0 []) := by
    have := OB.made (w3.alloc (.cells #[.bool b0', .bool b1', .int .u8 b2'] 24)) w3.heap.size hF3.out.size #[] (by simp)
    simpa [Hid] using this
  go_wp2_with (at_builtin; refine wpList_appBg (by rfl) (.tmp 27) (.tmp 28) rfl w3.heap.size 0 0 (some ⟨w3.heap.size + 1, 0, none⟩) [] rfl (by exact HO0.out) A0 n0 c0 l0 rfl (by exact (HB0.out.below hB3.out).below hBs.out) (by omega) (by exact hBs.out.size) ?_; intro A2 c2 w4 hown1 hg1 hat1; refine Hid.out ?_)
  refine Lib.hid ?_
  have hb4 : Hid (Below w3.heap.size w3 w4) := HO0.out.grows hBs.out hg1 (Nat.le_refl _) hBs.out.size
  simp only [Nat.zero_add, List.nil_append] at hown1 ⊢
  have HO1 := Lib.hid hown1
  clear hown1 hg1 hat1
  go_wp2_with (at_builtin; refine wpList_appBg (by rfl) (.tmp 29) (.tmp 30) rfl w3.heap.size n0 c2 A2 l0 rfl (by exact HO1.out) A n c (Hx.decode s1.toList).1 rfl (by exact HR3.out.below hb4.out) (by omega) (by exact hb4.out.size) ?_; intro A3 c3 w5 hown2 hg2 hat2; refine Hid.out ?_)
  refine Lib.hid ?_
  have hb5 : Hid (Below w3.heap.size w3 w5) := HO1.out.grows hb4.out hg2 (Nat.le_refl _) hb4.out.size
  have HRa := Lib.hid (HRn.out.below hb5.out)
  have HRb := Lib.hid hown2.rb
  clear hown2 hg2 hat2
  go_wp2_with (go_at_call 9; refine (same_any _ _ _ _ _ _ _ _ _ HRa.out HRb.out).mono ?_; rintro e w6 ⟨rfl, rfl⟩)
  go_ret
  exact ⟨ret_true (by simp), hB3.out.trans (hb5.out.mono hB3.out.size)⟩

/-- What the walk gives, said of whatever the row reads. -/
theorem contract (H : Type) (enc : TypeId × Value → H) (W : World) (base : Nat) (args : Array Value) (ds gs : List (DataW H)) (before : List MemPlace)
    (hval : ∀ (j : Nat) t v, Tryd.f3.params[j]? = some t → args[j]? = some v → Value.okWide Tryd.prog W .any base t v)
    (hW : DataW.Whole enc Tryd.prog Tryd.f3.params.toList Rows.fnDecodeJoinAllSpec.vars false W args.toList ds gs before)
    (hsz : (DataW.weightsEach Tryd.prog (Tryd.f3.params.toList ++ Rows.fnDecodeJoinAllSpec.plain.varTypes Tryd.prog) (ds ++ gs)).all (· ≤ reachBytes) = true) (hE : ErrIs W) :
    Calls Tryd.prog 3 args W fun e W' => ∃ v, e = .returned v ∧ Rows.fnDecodeJoinAllSpec.post enc Tryd.prog Tryd.f3 false true false false W args v W' := by
  have hW' := hW
  obtain ⟨p, q, hA0, hV, rfl, _, _⟩ := hW
  have hA : DataW.TrodAll enc Tryd.prog W 0 (fun _ => true) true Tryd.f3.params.toList args.toList ds p := hA0
  clear hA0
  rw [Tryd.params3] at hA hval hsz
  obtain ⟨v0, vs0, d0, ds0, p0, q0, hargs, rfl, rfl, h0, r0⟩ := trodAll_cons hA
  obtain ⟨v1, vs1, d1, ds1, p1, q1, rfl, rfl, rfl, h1, r1⟩ := trodAll_cons r0
  obtain ⟨rfl, rfl, rfl⟩ := trodAll_nil r1
  obtain rfl : args = #[v0, v1] := by cases args; simp_all
  obtain ⟨rfl, rfl⟩ := trodVars_none hV
  have k0 := h0
  have lt0 : ∀ x ∈ p0, x.block < W.heap.size := by obtain ⟨m, hm⟩ := k0; exact DataW.trod_lt m _ _ _ hm
  have k1 := h1
  have lt1 : ∀ x ∈ p1, x.block < W.heap.size := by obtain ⟨m, hm⟩ := k1; exact DataW.trod_lt m _ _ _ hm
  obtain ⟨A0, n0, c0, rfl⟩ := okWide_slice Tryd.underlying22 (hval 0 22 v0 rfl rfl)
  obtain ⟨l0, h0r, e0, g0, u0⟩ := argB h0 (weigh hsz (j := 0) rfl rfl)
  obtain ⟨s1, rfl, rfl, rfl, w1⟩ := open_string Tryd.underlying9 (hval 1 9 v1 rfl rfl) h1
  obtain ⟨g1, u1⟩ := argS (H := H) (weigh hsz (j := 1) rfl rfl)
  refine (walk A0 n0 c0 l0 s1 W h0r e0 g0 g1 hE).mono fun e W' ⟨he, bel⟩ => ?_
  subst he
  exact ⟨_, rfl, _, _, _, [], _, [], hW', trodAll_mk1 (shut_bool Tryd.underlying4 _), (trodAll_cons_mk (Below.trod laidOut (by kernel_rfl) (of_decide_eq_true (by kernel_rfl)) k0 bel lt0) (trodAll_cons_mk (Below.trod laidOut (by kernel_rfl) (of_decide_eq_true (by kernel_rfl)) k1 bel lt1) trodAll_mk0)), rfl, bel.frame _, fun h => by cases h⟩

theorem reads (os : Os) {H : Type} (enc : TypeId × Value → H) : ∃ places, DataW.whole enc Tryd.prog ((World.doorLaid Tryd.prog 400 os).forCall (fun _ _ => 0) ⟨#[], #[.slice none 0 0, .string ⟨#[]⟩], []⟩).memory Tryd.f3.params.toList Rows.fnDecodeJoinAllSpec.vars false (#[.slice none 0 0, .string ⟨#[]⟩] : Array Value).toList 8 = some ([.nil, .lit (.string [])], [], places) :=
  ⟨[], by kernel_rfl⟩

set_option maxRecDepth 100000 in
theorem lifted (os : Os) (started : os.Started) (H : Type) (enc : TypeId × Value → H) (F : Stop.Interp) :
    ReturnsInHanded {} Tryd.checked os 3 .any ((OpenSpec.ofChange Rows.fnDecodeJoinAllSpec).preRow enc Tryd.prog Tryd.f3 Rows.fnDecodeJoinAllRow.domain false Rows.fnDecodeJoinAllRow.laid) (((OpenSpec.ofChange Rows.fnDecodeJoinAllSpec).at F).post enc Tryd.prog Tryd.f3 false true false false) := by
  obtain ⟨places, hx⟩ := reads os enc
  refine returnsInHanded_of_row (C := Tryd.checked) (s := OpenSpec.ofChange Rows.fnDecodeJoinAllSpec) own started (by kernel_rfl) Tryd.func3
    (witness_row_atRef (enc := enc) (C := Tryd.checked) false (World.doorLaid Tryd.prog 400 os) #[.slice none 0 0, .string ⟨#[]⟩] rfl (by kernel_rfl) (by kernel_rfl) (by kernel_rfl)
      (OpenSpec.preRow_of_cond 8 hx (by kernel_rfl) (fun k hk => by cases hk) (by kernel_rfl) (door_met os _))) ?_
  intro W base args ds gs before hval hW _ _ hsz hL _ _
  exact contract H enc W base args ds gs before hval hW hsz (errIs_of hL)

theorem over : Rows.FnDecodeJoinAllSaid :=
  OpenClaim.holds_of_cond 3 Tryd.f3 rfl rfl rfl rfl rfl rfl rfl ⟨rfl, rfl, rfl, rfl, rfl⟩ rfl rfl rfl rfl rfl (by kernel_rfl) Tryd.func3 (by kernel_rfl)
    (of_decide_eq_true (by kernel_rfl)) (by unfold Func.isWrapper; first | (rw [if_pos (by decide +kernel)]; kernel_rfl) | (rw [if_neg (by decide +kernel)]; exact ⟨rfl, rfl⟩))
    (fun os started H enc _ F => by rw [OpenClaim.pre_eq_preRow]; exact lifted os started H enc F)

theorem plain (f : FuncId) (fn : Func) (hf : Tryd.pinned.checked.prog.funcNamed Rows.fnDecodeJoinAllRow.func = some f) (hfn : Tryd.pinned.checked.prog.funcs[f]? = some fn) :
    true = Tryd.pinned.checked.prog.looks [] ∧ ∀ (j : Nat) t, fn.params[j]? = some t → Tryd.pinned.checked.prog.wantsStandIn t = false := by
  obtain rfl : f = 3 := Option.some.inj ((show Tryd.prog.funcNamed Rows.fnDecodeJoinAllRow.func = some 3 by kernel_rfl).symm.trans hf) |>.symm
  obtain rfl : fn = Tryd.f3 := (Option.some.inj (Tryd.func3.symm.trans hfn)).symm
  refine ⟨by kernel_rfl, fun j t ht => ?_⟩
  rw [Tryd.params3] at ht
  have hm := Array.mem_of_getElem? ht
  simp at hm
  first
    | (subst hm; exact (show Tryd.prog.wantsStandIn _ = false by kernel_rfl))
    | (rcases hm with rfl | rfl <;> exact (show Tryd.prog.wantsStandIn _ = false by kernel_rfl))
    | (rcases hm with rfl | rfl | rfl <;> exact (show Tryd.prog.wantsStandIn _ = false by kernel_rfl))
    | (rcases hm with rfl | rfl | rfl | rfl <;> exact (show Tryd.prog.wantsStandIn _ = false by kernel_rfl))

theorem proved : Rows.FnDecodeJoinAllCardSaid :=
  Claim7.holds_tied_plain_at .later [] _ _ _ _ over (fun _ h => by cases h) (by kernel_rfl) (fun _ h => by cases h) fnDecodeJoinAll_row_tie rfl ⟨rfl, rfl⟩ (by kernel_rfl) rfl plain (by kernel_rfl)
end Go.Proofs.YtgkpekdgdiphdaaDoor.fnDecodeJoinAll
