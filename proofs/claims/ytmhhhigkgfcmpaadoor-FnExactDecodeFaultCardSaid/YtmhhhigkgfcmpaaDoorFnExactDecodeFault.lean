/-
  FnExactDecodeFault: DecodeString tells the fault of the reference for every text, for every argument that the form reaches; encoding/hex.ErrLength starts as the program lays it.
-/
import Derived.Test.YtmhhhigkgfcmpaaDoorCommon
import Derived.Test.YtmhhhigkgfcmpaaDoorSpecDec2
import Derived.Test.YtmhhhigkgfcmpaaDoorLaid
namespace Go.Proofs.YtmhhhigkgfcmpaaDoor.fnExactDecodeFault
open Go.ChangeShapes Go.WideShapes Go.ChangeAt Go.RowKit Go.Lib
open Go.ChangeMaps (open_string shut_string)
set_option linter.unusedVariables false



set_option maxHeartbeats 1000000 in
set_option maxRecDepth 100000 in
theorem walk (s0 : ByteArray) (w : World) (g0 : s0.size ≤ 140737488351232) (hE : ErrIs w) :
    Calls Tryd.prog 7 #[.string s0] w fun e w' => e = .returned (.bool true) ∧ Below w.heap.size w w' := by
  obtain ⟨ea, hE⟩ := hE
  have HE := Lib.hid hE
  clear hE
  go_enter Tryd.func7, Tryd.ntmps7
  go_wp2_with fail
  refine (decText s0 _ ea HE.out (by omega)).mono ?_
  rintro e w1 ⟨A, n, c, b0, b1, b2, rfl, hr, hn, hc1, hc2, hn2, hb0, hb1, hbb2, hbw, hE1⟩
  have hB := Lib.hid (hbw.alloc hbw.size (.cells #[.bool b0, .bool b1, .int .u8 b2] 24))
  have HC0 : Hid ((w1.alloc (.cells #[.bool b0, .bool b1, .int .u8 b2] 24)).cell? ⟨w1.heap.size, 0, none⟩ = some (.bool b0)) := by unfold Hid; simp [go_sem]
  have HC1 : Hid ((w1.alloc (.cells #[.bool b0, .bool b1, .int .u8 b2] 24)).cell? ⟨w1.heap.size, 1, none⟩ = some (.bool b1)) := by unfold Hid; simp [go_sem]
  have HC2 : Hid ((w1.alloc (.cells #[.bool b0, .bool b1, .int .u8 b2] 24)).cell? ⟨w1.heap.size, 2, none⟩ = some (.int .u8 b2)) := by unfold Hid; simp [go_sem]
  clear hbw
  have hcv := fun W => Lib.run_convert_string_bytes (P := Tryd.prog) W 9 22 5 s0 Tryd.underlying9 Tryd.underlying22 Tryd.underlying5
  go_wp2_with fail
  generalize hW : w1.alloc (.cells #[.bool b0, .bool b1, .int .u8 b2] 24) = W1 at hB HC0 HC1 HC2 ⊢
  have hsE : W1.heap.size = w1.heap.size + 1 := by rw [← hW]; simp
  have hsz1 : Hid (w1.heap.size < W1.heap.size) := by unfold Hid; omega
  clear hW
  have hbt := Lib.hid (below_bytesWorld W1 s0)
  have hrt0 := RB.ofText W1 s0
  rw [hsE] at hrt0
  have hrt := Lib.hid hrt0
  clear hrt0 hsE
  refine (specDecode _ _ _ _ _ hrt.out (by omega)).mono ?_
  rintro e w2 ⟨X, m, d, d0, d1, d2, rfl, gr, gm, gd1, gd2, gb0, gb1, gb2, gbw⟩
  have hb2 : Below W1.heap.size W1 w2 := hbt.out.trans (gbw.mono hbt.out.size)
  have hsz2 : w1.heap.size < w2.heap.size := by have := hb2.size; have := hsz1.out; omega
  have hcell0 : w2.cell? ⟨w1.heap.size, 0, none⟩ = some (.bool b0) := (hb2.cell (p := ⟨w1.heap.size, 0, none⟩) hsz1.out).trans HC0.out
  have hcell1 : w2.cell? ⟨w1.heap.size, 1, none⟩ = some (.bool b1) := (hb2.cell (p := ⟨w1.heap.size, 1, none⟩) hsz1.out).trans HC1.out
  have hcell2 : w2.cell? ⟨w1.heap.size, 2, none⟩ = some (.int .u8 b2) := (hb2.cell (p := ⟨w1.heap.size, 2, none⟩) hsz1.out).trans HC2.out
  have hB3 := Lib.hid ((hB.out.trans (hb2.mono hB.out.size)).alloc (Nat.le_trans hB.out.size hb2.size) (.cells #[.bool d0, .bool d1, .int .u8 d2] 35))
  have q0 : (b0 == d0) = true := by rw [hb0.out, gb0.out, Go.ByteArray.toList_eq]; simp
  have q1 : (b1 == d1) = true := by rw [hb1.out, gb1.out, Go.ByteArray.toList_eq]; simp
  have q2 : (b2 == d2) = true := by rw [hbb2.out, gb2.out, Go.ByteArray.toList_eq]; simp
  clear hb2 gbw hcv
  go_wp2_with (go_at_call 21; go_in)
  go_ret
  exact ⟨ret_true (by simp), (hB3.out.alloc hB3.out.size _).alloc (Nat.le_trans hB3.out.size (by simp)) _⟩

/-- What the walk gives, said of whatever the row reads. -/
theorem contract (H : Type) (enc : TypeId × Value → H) (W : World) (base : Nat) (args : Array Value) (ds gs : List (DataW H)) (before : List MemPlace)
    (hval : ∀ (j : Nat) t v, Tryd.f7.params[j]? = some t → args[j]? = some v → Value.okWide Tryd.prog W .any base t v)
    (hW : DataW.Whole enc Tryd.prog Tryd.f7.params.toList Rows.fnExactDecodeFaultSpec.vars false W args.toList ds gs before)
    (hsz : (DataW.weightsEach Tryd.prog (Tryd.f7.params.toList ++ Rows.fnExactDecodeFaultSpec.plain.varTypes Tryd.prog) (ds ++ gs)).all (· ≤ reachBytes) = true) (hE : ErrIs W) :
    Calls Tryd.prog 7 args W fun e W' => ∃ v, e = .returned v ∧ Rows.fnExactDecodeFaultSpec.post enc Tryd.prog Tryd.f7 false true false false W args v W' := by
  have hW' := hW
  obtain ⟨p, q, hA0, hV, rfl, _, _⟩ := hW
  have hA : DataW.TrodAll enc Tryd.prog W 0 (fun _ => true) true Tryd.f7.params.toList args.toList ds p := hA0
  clear hA0
  rw [Tryd.params7] at hA hval hsz
  obtain ⟨v0, vs0, d0, ds0, p0, q0, hargs, rfl, rfl, h0, r0⟩ := trodAll_cons hA
  obtain ⟨rfl, rfl, rfl⟩ := trodAll_nil r0
  obtain rfl : args = #[v0] := by cases args; simp_all
  obtain ⟨rfl, rfl⟩ := trodVars_none hV
  have k0 := h0
  have lt0 : ∀ x ∈ p0, x.block < W.heap.size := by obtain ⟨m, hm⟩ := k0; exact DataW.trod_lt m _ _ _ hm
  obtain ⟨s0, rfl, rfl, rfl, w0⟩ := open_string Tryd.underlying9 (hval 0 9 v0 rfl rfl) h0
  obtain ⟨g0, u0⟩ := argS (H := H) (weigh hsz (j := 0) rfl rfl)
  refine (walk s0 W g0 hE).mono fun e W' ⟨he, bel⟩ => ?_
  subst he
  exact ⟨_, rfl, _, _, _, [], _, [], hW', trodAll_mk1 (shut_bool Tryd.underlying4 _), (trodAll_cons_mk (Below.trod laidOut (by kernel_rfl) (of_decide_eq_true (by kernel_rfl)) k0 bel lt0) trodAll_mk0), rfl, bel.frame _, fun h => by cases h⟩

theorem reads (os : Os) {H : Type} (enc : TypeId × Value → H) : ∃ places, DataW.whole enc Tryd.prog ((World.doorLaid Tryd.prog 400 os).forCall (fun _ _ => 0) ⟨#[], #[.string ⟨#[]⟩], []⟩).memory Tryd.f7.params.toList Rows.fnExactDecodeFaultSpec.vars false (#[.string ⟨#[]⟩] : Array Value).toList 8 = some ([.lit (.string [])], [], places) :=
  ⟨[], by kernel_rfl⟩

set_option maxRecDepth 100000 in
theorem lifted (os : Os) (started : os.Started) (H : Type) (enc : TypeId × Value → H) (F : Stop.Interp) :
    ReturnsInHanded {} Tryd.checked os 7 .any ((OpenSpec.ofChange Rows.fnExactDecodeFaultSpec).preRow enc Tryd.prog Tryd.f7 Rows.fnExactDecodeFaultRow.domain false Rows.fnExactDecodeFaultRow.laid) (((OpenSpec.ofChange Rows.fnExactDecodeFaultSpec).at F).post enc Tryd.prog Tryd.f7 false true false false) := by
  obtain ⟨places, hx⟩ := reads os enc
  refine returnsInHanded_of_row (C := Tryd.checked) (s := OpenSpec.ofChange Rows.fnExactDecodeFaultSpec) own started (by kernel_rfl) Tryd.func7
    (witness_row_atRef (enc := enc) (C := Tryd.checked) false (World.doorLaid Tryd.prog 400 os) #[.string ⟨#[]⟩] rfl (by kernel_rfl) (by kernel_rfl) (by kernel_rfl)
      (OpenSpec.preRow_of_cond 8 hx (by kernel_rfl) (fun k hk => by cases hk) (by kernel_rfl) (door_met os _))) ?_
  intro W base args ds gs before hval hW _ _ hsz hL _ _
  exact contract H enc W base args ds gs before hval hW hsz (errIs_of hL)

theorem over : Rows.FnExactDecodeFaultSaid :=
  OpenClaim.holds_of_cond 7 Tryd.f7 rfl rfl rfl rfl rfl rfl rfl ⟨rfl, rfl, rfl, rfl, rfl⟩ rfl rfl rfl rfl rfl (by kernel_rfl) Tryd.func7 (by kernel_rfl)
    (of_decide_eq_true (by kernel_rfl)) (by unfold Func.isWrapper; first | (rw [if_pos (by decide +kernel)]; kernel_rfl) | (rw [if_neg (by decide +kernel)]; exact ⟨rfl, rfl⟩))
    (fun os started H enc _ F => by rw [OpenClaim.pre_eq_preRow]; exact lifted os started H enc F)

theorem plain (f : FuncId) (fn : Func) (hf : Tryd.pinned.checked.prog.funcNamed Rows.fnExactDecodeFaultRow.func = some f) (hfn : Tryd.pinned.checked.prog.funcs[f]? = some fn) :
    true = Tryd.pinned.checked.prog.looks [] ∧ ∀ (j : Nat) t, fn.params[j]? = some t → Tryd.pinned.checked.prog.wantsStandIn t = false := by
  obtain rfl : f = 7 := Option.some.inj ((show Tryd.prog.funcNamed Rows.fnExactDecodeFaultRow.func = some 7 by kernel_rfl).symm.trans hf) |>.symm
  obtain rfl : fn = Tryd.f7 := (Option.some.inj (Tryd.func7.symm.trans hfn)).symm
  refine ⟨by kernel_rfl, fun j t ht => ?_⟩
  rw [Tryd.params7] at ht
  have hm := Array.mem_of_getElem? ht
  simp at hm
  first
    | (subst hm; exact (show Tryd.prog.wantsStandIn _ = false by kernel_rfl))
    | (rcases hm with rfl | rfl <;> exact (show Tryd.prog.wantsStandIn _ = false by kernel_rfl))
    | (rcases hm with rfl | rfl | rfl <;> exact (show Tryd.prog.wantsStandIn _ = false by kernel_rfl))

theorem proved : Rows.FnExactDecodeFaultCardSaid :=
  Claim7.holds_tied_plain_at .later [] _ _ _ _ over (fun _ h => by cases h) (by kernel_rfl) (fun _ h => by cases h) fnExactDecodeFault_row_tie rfl ⟨rfl, rfl⟩ (by kernel_rfl) rfl plain (by kernel_rfl)
end Go.Proofs.YtmhhhigkgfcmpaaDoor.fnExactDecodeFault
