/-
  FnDecodeStops: behind what was decoded of a text with a fault the next two bytes, or the last one, are no pair of digits, for every argument that the form reaches; encoding/hex.ErrLength starts as the program lays it.
-/
import Derived.Test.YtmhhhigkgfcmpaaDoorCommon
import Derived.Test.YtmhhhigkgfcmpaaDoorDigit
import Derived.Test.YtmhhhigkgfcmpaaDoorLaid
namespace Go.Proofs.YtmhhhigkgfcmpaaDoor.fnDecodeStops
open Go.ChangeShapes Go.WideShapes Go.ChangeAt Go.RowKit Go.Lib
open Go.ChangeMaps (open_string shut_string)
set_option linter.unusedVariables false

theorem at_some (s : ByteArray) (k : Nat) (c : UInt8) (h : s.toList[k]? = some c) : ∃ hk : k < s.size, s[k] = c := by
  rw [Go.ByteArray.toList_eq, Array.getElem?_toList] at h
  obtain ⟨hk, e⟩ := Array.getElem?_eq_some_iff.1 h
  exact ⟨hk, e⟩

set_option maxHeartbeats 1000000 in
set_option maxRecDepth 100000 in
theorem walk (s0 : ByteArray) (w : World) (g0 : s0.size ≤ 140737488351232) (hE : ErrIs w) :
    Calls Tryd.prog 6 #[.string s0] w fun e w' => e = .returned (.bool true) ∧ Below w.heap.size w w' := by
  obtain ⟨ea, hE⟩ := hE
  have HE := Lib.hid hE
  clear hE
  have hlen := Lib.hid (show s0.toList.length = s0.size by rw [Go.ByteArray.toList_eq]; exact Array.length_toList)
  go_enter Tryd.func6, Tryd.ntmps6
  go_wp2_with fail
  refine (decText s0 _ ea HE.out (by omega)).mono ?_
  rintro e w1 ⟨A, n, c, b0, b1, b2, rfl, hr, hn, hc1, hc2, hn2, hb0, hb1, hb2, hbw, hE1⟩
  have hB := Lib.hid (hbw.alloc hbw.size (.cells #[.bool b0, .bool b1, .int .u8 b2] 24))
  cases hbb : Hex.bad (Hx.decode s0.toList).2 with
  | false =>
    obtain rfl : b0 = false := hb0.out.trans hbb
    have q : (2 * (n : Int) == (s0.size : Int)) = true := by
      have := Hex.good_len _ hbb
      rw [hlen.out, hn.out] at this
      simp; omega
    clear hbb
    go_wp2_with fail
    go_ret
    exact ⟨ret_true (by simp), hB.out⟩
  | true =>
    obtain rfl : b0 = true := hb0.out.trans hbb
    obtain ⟨h1, h2⟩ := Hex.bad_stops _ hbb
    rw [hlen.out, hn.out] at h1
    rw [hlen.out, hn.out] at h2
    clear hbb
    rcases h2 with h2 | ⟨x, h2, h3⟩ | ⟨x, h2, h3⟩
    · have q : (2 * (n : Int) + 1 == (s0.size : Int)) = true := by simp; omega
      clear h2
      go_wp2_with fail
      go_ret
      exact ⟨ret_true (by simp), hB.out⟩
    · obtain ⟨hk, e⟩ := at_some s0 _ x h2
      have hd : digB (s0[2 * n]'hk) = false := by rw [e]; exact digB_false h3
      clear h2 e h3
      by_cases q : 2 * n + 1 = s0.size
      · have q' : (2 * (n : Int) + 1 == (s0.size : Int)) = true := by simp; omega
        clear q
        go_wp2_with fail
        go_ret
        exact ⟨ret_true (by simp), hB.out⟩
      · have q' : (2 * (n : Int) + 1 == (s0.size : Int)) = false := by simp; omega
        clear q
        go_wp2_with (go_at_call 16; refine (digit_any _ _).mono ?_; rintro e w' ⟨rfl, rfl⟩)
        go_ret
        exact ⟨ret_true (by simp), hB.out⟩
    · obtain ⟨hk, e⟩ := at_some s0 _ x h2
      have hd : digB (s0[2 * n + 1]'hk) = false := by rw [e]; exact digB_false h3
      clear h2 e h3
      have q' : (2 * (n : Int) + 1 == (s0.size : Int)) = false := by simp; omega
      cases hd0 : digB (s0[2 * n]'(by omega))
      all_goals
        go_wp2_with (go_at_call 16; refine (digit_any _ _).mono ?_; rintro e w' ⟨rfl, rfl⟩)
        go_ret
        exact ⟨ret_true (by simp), hB.out⟩

/-- What the walk gives, said of whatever the row reads. -/
theorem contract (H : Type) (enc : TypeId × Value → H) (W : World) (base : Nat) (args : Array Value) (ds gs : List (DataW H)) (before : List MemPlace)
    (hval : ∀ (j : Nat) t v, Tryd.f6.params[j]? = some t → args[j]? = some v → Value.okWide Tryd.prog W .any base t v)
    (hW : DataW.Whole enc Tryd.prog Tryd.f6.params.toList Rows.fnDecodeStopsSpec.vars false W args.toList ds gs before)
    (hsz : (DataW.weightsEach Tryd.prog (Tryd.f6.params.toList ++ Rows.fnDecodeStopsSpec.plain.varTypes Tryd.prog) (ds ++ gs)).all (· ≤ reachBytes) = true) (hE : ErrIs W) :
    Calls Tryd.prog 6 args W fun e W' => ∃ v, e = .returned v ∧ Rows.fnDecodeStopsSpec.post enc Tryd.prog Tryd.f6 false true false false W args v W' := by
  have hW' := hW
  obtain ⟨p, q, hA0, hV, rfl, _, _⟩ := hW
  have hA : DataW.TrodAll enc Tryd.prog W 0 (fun _ => true) true Tryd.f6.params.toList args.toList ds p := hA0
  clear hA0
  rw [Tryd.params6] at hA hval hsz
  obtain ⟨v0, vs0, d0, ds0, p0, q0, hargs, rfl, rfl, h0, r0⟩ := trodAll_cons hA
  obtain ⟨rfl, rfl, rfl⟩ := trodAll_nil r0
  obtain rfl : args = #[v0] := by cases args; simp_all
  obtain ⟨rfl, rfl⟩ := trodVars_none hV
  have k0 := h0
  have lt0 : ∀ x ∈ p0, x.block < W.heap.size := by obtain ⟨m, hm⟩ := k0; exact DataW.trod_lt m _ _ _ hm
  obtain ⟨s0, rfl, rfl, rfl, w0⟩ := open_string Tryd.underlying9 (hval 0 9 v0 rfl rfl) h0
  obtain ⟨g0, u0⟩ := argS (H := H) (weigh hsz (j := 0) rfl rfl)
  refine (walk s0 W g0 hE).mono fun e W' ⟨he, bel⟩ => ?_
  subst he
  exact ⟨_, rfl, _, _, _, [], _, [], hW', trodAll_mk1 (shut_bool Tryd.underlying4 _), (trodAll_cons_mk (Below.trod laidOut (by kernel_rfl) (of_decide_eq_true (by kernel_rfl)) k0 bel lt0) trodAll_mk0), rfl, bel.frame _, fun h => by cases h⟩

theorem reads (os : Os) {H : Type} (enc : TypeId × Value → H) : ∃ places, DataW.whole enc Tryd.prog ((World.doorLaid Tryd.prog 400 os).forCall (fun _ _ => 0) ⟨#[], #[.string ⟨#[]⟩], []⟩).memory Tryd.f6.params.toList Rows.fnDecodeStopsSpec.vars false (#[.string ⟨#[]⟩] : Array Value).toList 8 = some ([.lit (.string [])], [], places) :=
  ⟨[], by kernel_rfl⟩

set_option maxRecDepth 100000 in
theorem lifted (os : Os) (started : os.Started) (H : Type) (enc : TypeId × Value → H) (F : Stop.Interp) :
    ReturnsInHanded {} Tryd.checked os 6 .any ((OpenSpec.ofChange Rows.fnDecodeStopsSpec).preRow enc Tryd.prog Tryd.f6 Rows.fnDecodeStopsRow.domain false Rows.fnDecodeStopsRow.laid) (((OpenSpec.ofChange Rows.fnDecodeStopsSpec).at F).post enc Tryd.prog Tryd.f6 false true false false) := by
  obtain ⟨places, hx⟩ := reads os enc
  refine returnsInHanded_of_row (C := Tryd.checked) (s := OpenSpec.ofChange Rows.fnDecodeStopsSpec) own started (by kernel_rfl) Tryd.func6
    (witness_row_atRef (enc := enc) (C := Tryd.checked) false (World.doorLaid Tryd.prog 400 os) #[.string ⟨#[]⟩] rfl (by kernel_rfl) (by kernel_rfl) (by kernel_rfl)
      (OpenSpec.preRow_of_cond 8 hx (by kernel_rfl) (fun k hk => by cases hk) (by kernel_rfl) (door_met os _))) ?_
  intro W base args ds gs before hval hW _ _ hsz hL _ _
  exact contract H enc W base args ds gs before hval hW hsz (errIs_of hL)

theorem over : Rows.FnDecodeStopsSaid :=
  OpenClaim.holds_of_cond 6 Tryd.f6 rfl rfl rfl rfl rfl rfl rfl ⟨rfl, rfl, rfl, rfl, rfl⟩ rfl rfl rfl rfl rfl (by kernel_rfl) Tryd.func6 (by kernel_rfl)
    (of_decide_eq_true (by kernel_rfl)) (by unfold Func.isWrapper; first | (rw [if_pos (by decide +kernel)]; kernel_rfl) | (rw [if_neg (by decide +kernel)]; exact ⟨rfl, rfl⟩))
    (fun os started H enc _ F => by rw [OpenClaim.pre_eq_preRow]; exact lifted os started H enc F)

theorem plain (f : FuncId) (fn : Func) (hf : Tryd.pinned.checked.prog.funcNamed Rows.fnDecodeStopsRow.func = some f) (hfn : Tryd.pinned.checked.prog.funcs[f]? = some fn) :
    true = Tryd.pinned.checked.prog.looks [] ∧ ∀ (j : Nat) t, fn.params[j]? = some t → Tryd.pinned.checked.prog.wantsStandIn t = false := by
  obtain rfl : f = 6 := Option.some.inj ((show Tryd.prog.funcNamed Rows.fnDecodeStopsRow.func = some 6 by kernel_rfl).symm.trans hf) |>.symm
  obtain rfl : fn = Tryd.f6 := (Option.some.inj (Tryd.func6.symm.trans hfn)).symm
  refine ⟨by kernel_rfl, fun j t ht => ?_⟩
  rw [Tryd.params6] at ht
  have hm := Array.mem_of_getElem? ht
  simp at hm
  first
    | (subst hm; exact (show Tryd.prog.wantsStandIn _ = false by kernel_rfl))
    | (rcases hm with rfl | rfl <;> exact (show Tryd.prog.wantsStandIn _ = false by kernel_rfl))
    | (rcases hm with rfl | rfl | rfl <;> exact (show Tryd.prog.wantsStandIn _ = false by kernel_rfl))

theorem proved : Rows.FnDecodeStopsCardSaid :=
  Claim7.holds_tied_plain_at .later [] _ _ _ _ over (fun _ h => by cases h) (by kernel_rfl) (fun _ h => by cases h) fnDecodeStops_row_tie rfl ⟨rfl, rfl⟩ (by kernel_rfl) rfl plain (by kernel_rfl)
end Go.Proofs.YtmhhhigkgfcmpaaDoor.fnDecodeStops
