/-
  FnDecodeKeeps: what is decoded of a text with a fault in its pairs stays, whatever is behind; a single digit is no text, for every argument that the form reaches; encoding/hex.ErrLength starts as the program lays it.
-/
import Derived.Test.YtmhhhigkgfcmpaaDoorCommon
import Derived.Test.YtmhhhigkgfcmpaaDoorSmall
import Derived.Test.YtmhhhigkgfcmpaaDoorLaid
namespace Go.Proofs.YtmhhhigkgfcmpaaDoor.fnDecodeKeeps
open Go.ChangeShapes Go.WideShapes Go.ChangeAt Go.RowKit Go.Lib
open Go.ChangeMaps (open_string shut_string)
set_option linter.unusedVariables false

theorem one_digit : Hex.bad (Hx.decode (ByteArray.toList ⟨#[48]⟩)).2 = true := by
  rw [Go.ByteArray.toList_eq]
  decide +kernel

set_option maxHeartbeats 400000 in
theorem refuses_any (w : World) (a : Addr) (hE : ErrAt w a) : Calls Tryd.prog 19 #[] w fun e w' => e = .returned (.bool true) ∧ Below w.heap.size w w' := by
  have HE := Lib.hid hE
  clear hE
  go_enter Tryd.func19, Tryd.ntmps19
  go_wp2_with fail
  refine (decText ⟨#[48]⟩ _ a HE.out (by decide)).mono ?_
  rintro e w1 ⟨A, n, c, b0, b1, b2, rfl, hr, hn, hc1, hc2, hn2, hb0, hb1, hb2, hbw, hE1⟩
  have hB := Lib.hid (hbw.alloc hbw.size (.cells #[.bool b0, .bool b1, .int .u8 b2] 24))
  obtain rfl : b0 = true := hb0.out.trans one_digit
  go_wp2_with fail
  go_ret
  exact ⟨rfl, hB.out⟩

theorem app_list (s t : ByteArray) : (s ++ t).toList = s.toList ++ t.toList := by
  rw [Go.ByteArray.toList_eq, Go.ByteArray.toList_eq, Go.ByteArray.toList_eq]
  simp

set_option maxHeartbeats 1000000 in
set_option maxRecDepth 100000 in
theorem walk (s0 : ByteArray) (s1 : ByteArray) (w : World) (g0 : s0.size ≤ 140737488351232) (g1 : s1.size ≤ 140737488351232) (hE : ErrIs w) :
    Calls Tryd.prog 5 #[.string s0, .string s1] w fun e w' => e = .returned (.bool true) ∧ Below w.heap.size w w' := by
  obtain ⟨ea, hE⟩ := hE
  have HE := Lib.hid hE
  clear hE
  have hlen := Lib.hid (show s0.toList.length = s0.size by rw [Go.ByteArray.toList_eq]; exact Array.length_toList)
  go_enter Tryd.func5, Tryd.ntmps5
  go_wp2_with fail
  refine (decText s0 _ ea HE.out (by omega)).mono ?_
  rintro e w1 ⟨A, n, c, b0, b1, b2, rfl, hr, hn, hc1, hc2, hn2, hb0, hb1, hb2, hbw, hE1⟩
  have hB := Lib.hid (hbw.alloc hbw.size (.cells #[.bool b0, .bool b1, .int .u8 b2] 24))
  have HR := Lib.hid (hr.out.alloc (.cells #[.bool b0, .bool b1, .int .u8 b2] 24))
  have HE2 := Lib.hid (hE1.out.below ((Below.refl _ w1).alloc (Nat.le_refl _) (.cells #[.bool b0, .bool b1, .int .u8 b2] 24)))
  have hcell : (w1.alloc (.cells #[.bool b0, .bool b1, .int .u8 b2] 24)).cell? ⟨w1.heap.size, 0, none⟩ = some (.bool b0) := by simp [go_sem]
  have HC := Lib.hid hcell
  clear hcell hbw
  have hsum : (s0 ++ s1).size = s0.size + s1.size := by simp
  have HS := Lib.hid hsum
  clear hsum
  go_wp2_with fail
  refine (decText (s0 ++ s1) _ ea HE2.out (by rw [HS.out]; omega)).mono ?_
  rintro e w2 ⟨A', n', c', b0', b1', b2', rfl, hr', hn', hc1', hc2', hn2', hb0', hb1', hb2', hbw', hE1'⟩
  have hB2 := Lib.hid (hB.out.trans (hbw'.mono hB.out.size))
  have hB3 := Lib.hid (hB2.out.alloc hB2.out.size (.cells #[.bool b0', .bool b1', .int .u8 b2'] 24))
  have hsz : w1.heap.size < w2.heap.size := by have := hbw'.size; simp at this; omega
  have hc0 : w2.cell? ⟨w1.heap.size, 0, none⟩ = some (.bool b0) := (hbw'.cell (p := ⟨w1.heap.size, 0, none⟩) (by simp)).trans HC.out
  have HRa := Lib.hid ((HR.out.below hbw').alloc (.cells #[.bool b0', .bool b1', .int .u8 b2'] 24))
  have HRb := Lib.hid (hr'.out.alloc (.cells #[.bool b0', .bool b1', .int .u8 b2'] 24))
  have HE3 := Lib.hid (hE1'.out.below ((Below.refl _ w2).alloc (Nat.le_refl _) (.cells #[.bool b0', .bool b1', .int .u8 b2'] 24)))
  clear hbw'
  cases hbb : Hex.bad (Hx.decode s0.toList).2 with
  | false =>
    obtain rfl : b0 = false := hb0.out.trans hbb
    clear hbb
    go_wp2_with (go_at_call 19; refine (refuses_any _ ea HE3.out).mono ?_; rintro e w3 ⟨rfl, hb3⟩)
    go_ret
    exact ⟨rfl, hB3.out.trans (hb3.mono hB3.out.size)⟩
  | true =>
    obtain rfl : b0 = true := hb0.out.trans hbb
    by_cases hq : 2 * n + 1 = s0.size
    · have q : (2 * (n : Int) + 1 == (s0.size : Int)) = true := by simp; omega
      clear hbb hq
      go_wp2_with (go_at_call 19; refine (refuses_any _ ea HE3.out).mono ?_; rintro e w3 ⟨rfl, hb3⟩)
      go_ret
      exact ⟨rfl, hB3.out.trans (hb3.mono hB3.out.size)⟩
    · have q : (2 * (n : Int) + 1 == (s0.size : Int)) = false := by simp; omega
      have hk := Hex.keeps s0.toList s1.toList hbb (by rw [hn.out, hlen.out]; exact hq)
      rw [← app_list] at hk
      obtain rfl : b0' = true := hb0'.out.trans hk.2
      have hsame : ((Hx.decode s0.toList).1 == (Hx.decode (s0 ++ s1).toList).1) = true := by rw [hk.1]; simp
      clear hbb hq hk
      go_wp2_with (go_at_call 18; refine (same_any _ _ _ _ _ _ _ _ _ HRa.out HRb.out).mono ?_; rintro e w3 ⟨rfl, rfl⟩)
      go_ret
      exact ⟨ret_true (by simp), hB3.out⟩

/-- What the walk gives, said of whatever the row reads. -/
theorem contract (H : Type) (enc : TypeId × Value → H) (W : World) (base : Nat) (args : Array Value) (ds gs : List (DataW H)) (before : List MemPlace)
    (hval : ∀ (j : Nat) t v, Tryd.f5.params[j]? = some t → args[j]? = some v → Value.okWide Tryd.prog W .any base t v)
    (hW : DataW.Whole enc Tryd.prog Tryd.f5.params.toList Rows.fnDecodeKeepsSpec.vars false W args.toList ds gs before)
    (hsz : (DataW.weightsEach Tryd.prog (Tryd.f5.params.toList ++ Rows.fnDecodeKeepsSpec.plain.varTypes Tryd.prog) (ds ++ gs)).all (· ≤ reachBytes) = true) (hE : ErrIs W) :
    Calls Tryd.prog 5 args W fun e W' => ∃ v, e = .returned v ∧ Rows.fnDecodeKeepsSpec.post enc Tryd.prog Tryd.f5 false true false false W args v W' := by
  have hW' := hW
  obtain ⟨p, q, hA0, hV, rfl, _, _⟩ := hW
  have hA : DataW.TrodAll enc Tryd.prog W 0 (fun _ => true) true Tryd.f5.params.toList args.toList ds p := hA0
  clear hA0
  rw [Tryd.params5] at hA hval hsz
  obtain ⟨v0, vs0, d0, ds0, p0, q0, hargs, rfl, rfl, h0, r0⟩ := trodAll_cons hA
  obtain ⟨v1, vs1, d1, ds1, p1, q1, rfl, rfl, rfl, h1, r1⟩ := trodAll_cons r0
  obtain ⟨rfl, rfl, rfl⟩ := trodAll_nil r1
  obtain rfl : args = #[v0, v1] := by cases args; simp_all
  obtain ⟨rfl, rfl⟩ := trodVars_none hV
  have k0 := h0
  have lt0 : ∀ x ∈ p0, x.block < W.heap.size := by obtain ⟨m, hm⟩ := k0; exact DataW.trod_lt m _ _ _ hm
  have k1 := h1
  have lt1 : ∀ x ∈ p1, x.block < W.heap.size := by obtain ⟨m, hm⟩ := k1; exact DataW.trod_lt m _ _ _ hm
  obtain ⟨s0, rfl, rfl, rfl, w0⟩ := open_string Tryd.underlying9 (hval 0 9 v0 rfl rfl) h0
  obtain ⟨g0, u0⟩ := argS (H := H) (weigh hsz (j := 0) rfl rfl)
  obtain ⟨s1, rfl, rfl, rfl, w1⟩ := open_string Tryd.underlying9 (hval 1 9 v1 rfl rfl) h1
  obtain ⟨g1, u1⟩ := argS (H := H) (weigh hsz (j := 1) rfl rfl)
  refine (walk s0 s1 W g0 g1 hE).mono fun e W' ⟨he, bel⟩ => ?_
  subst he
  exact ⟨_, rfl, _, _, _, [], _, [], hW', trodAll_mk1 (shut_bool Tryd.underlying4 _), (trodAll_cons_mk (Below.trod laidOut (by kernel_rfl) (of_decide_eq_true (by kernel_rfl)) k0 bel lt0) (trodAll_cons_mk (Below.trod laidOut (by kernel_rfl) (of_decide_eq_true (by kernel_rfl)) k1 bel lt1) trodAll_mk0)), rfl, bel.frame _, fun h => by cases h⟩

theorem reads (os : Os) {H : Type} (enc : TypeId × Value → H) : ∃ places, DataW.whole enc Tryd.prog ((World.doorLaid Tryd.prog 400 os).forCall (fun _ _ => 0) ⟨#[], #[.string ⟨#[]⟩, .string ⟨#[]⟩], []⟩).memory Tryd.f5.params.toList Rows.fnDecodeKeepsSpec.vars false (#[.string ⟨#[]⟩, .string ⟨#[]⟩] : Array Value).toList 8 = some ([.lit (.string []), .lit (.string [])], [], places) :=
  ⟨[], by kernel_rfl⟩

set_option maxRecDepth 100000 in
theorem lifted (os : Os) (started : os.Started) (H : Type) (enc : TypeId × Value → H) (F : Stop.Interp) :
    ReturnsInHanded {} Tryd.checked os 5 .any ((OpenSpec.ofChange Rows.fnDecodeKeepsSpec).preRow enc Tryd.prog Tryd.f5 Rows.fnDecodeKeepsRow.domain false Rows.fnDecodeKeepsRow.laid) (((OpenSpec.ofChange Rows.fnDecodeKeepsSpec).at F).post enc Tryd.prog Tryd.f5 false true false false) := by
  obtain ⟨places, hx⟩ := reads os enc
  refine returnsInHanded_of_row (C := Tryd.checked) (s := OpenSpec.ofChange Rows.fnDecodeKeepsSpec) own started (by kernel_rfl) Tryd.func5
    (witness_row_atRef (enc := enc) (C := Tryd.checked) false (World.doorLaid Tryd.prog 400 os) #[.string ⟨#[]⟩, .string ⟨#[]⟩] rfl (by kernel_rfl) (by kernel_rfl) (by kernel_rfl)
      (OpenSpec.preRow_of_cond 8 hx (by kernel_rfl) (fun k hk => by cases hk) (by kernel_rfl) (door_met os _))) ?_
  intro W base args ds gs before hval hW _ _ hsz hL _ _
  exact contract H enc W base args ds gs before hval hW hsz (errIs_of hL)

theorem over : Rows.FnDecodeKeepsSaid :=
  OpenClaim.holds_of_cond 5 Tryd.f5 rfl rfl rfl rfl rfl rfl rfl ⟨rfl, rfl, rfl, rfl, rfl⟩ rfl rfl rfl rfl rfl (by kernel_rfl) Tryd.func5 (by kernel_rfl)
    (of_decide_eq_true (by kernel_rfl)) (by unfold Func.isWrapper; first | (rw [if_pos (by decide +kernel)]; kernel_rfl) | (rw [if_neg (by decide +kernel)]; exact ⟨rfl, rfl⟩))
    (fun os started H enc _ F => by rw [OpenClaim.pre_eq_preRow]; exact lifted os started H enc F)

theorem plain (f : FuncId) (fn : Func) (hf : Tryd.pinned.checked.prog.funcNamed Rows.fnDecodeKeepsRow.func = some f) (hfn : Tryd.pinned.checked.prog.funcs[f]? = some fn) :
    true = Tryd.pinned.checked.prog.looks [] ∧ ∀ (j : Nat) t, fn.params[j]? = some t → Tryd.pinned.checked.prog.wantsStandIn t = false := by
  obtain rfl : f = 5 := Option.some.inj ((show Tryd.prog.funcNamed Rows.fnDecodeKeepsRow.func = some 5 by kernel_rfl).symm.trans hf) |>.symm
  obtain rfl : fn = Tryd.f5 := (Option.some.inj (Tryd.func5.symm.trans hfn)).symm
  refine ⟨by kernel_rfl, fun j t ht => ?_⟩
  rw [Tryd.params5] at ht
  have hm := Array.mem_of_getElem? ht
  simp at hm
  first
    | (subst hm; exact (show Tryd.prog.wantsStandIn _ = false by kernel_rfl))
    | (rcases hm with rfl | rfl <;> exact (show Tryd.prog.wantsStandIn _ = false by kernel_rfl))
    | (rcases hm with rfl | rfl | rfl <;> exact (show Tryd.prog.wantsStandIn _ = false by kernel_rfl))

theorem proved : Rows.FnDecodeKeepsCardSaid :=
  Claim7.holds_tied_plain_at .later [] _ _ _ _ over (fun _ h => by cases h) (by kernel_rfl) (fun _ h => by cases h) fnDecodeKeeps_row_tie rfl ⟨rfl, rfl⟩ (by kernel_rfl) rfl plain (by kernel_rfl)
end Go.Proofs.YtmhhhigkgfcmpaaDoor.fnDecodeKeeps
