/-
  FnDecodeBegins: what is decoded of any text is the beginning of it, with small letters, and not nothing behind a pair of digits, for every argument that the form reaches; encoding/hex.ErrLength starts as the program lays it.
-/
import Derived.Test.YtmhhhigkgfcmpaaDoorCommon
import Derived.Test.YtmhhhigkgfcmpaaDoorSmall
import Derived.Test.YtmhhhigkgfcmpaaDoorLaid
namespace Go.Proofs.YtmhhhigkgfcmpaaDoor.fnDecodeBegins
open Go.ChangeShapes Go.WideShapes Go.ChangeAt Go.RowKit Go.Lib
open Go.ChangeMaps (open_string shut_string)
set_option linter.unusedVariables false

theorem pair_some (s : ByteArray) (h1 : 1 < s.size) (d0 : digB (s[0]'(by omega)) = true) (d1 : digB (s[1]'h1) = true) : 0 < (Hx.decode s.toList).1.length := by
  have e : ∃ t, s.toList = s[0]'(by omega) :: s[1]'h1 :: t := by
    rw [Go.ByteArray.toList_eq]
    have hl : s.data.toList.length = s.size := Array.length_toList
    refine ⟨s.data.toList.drop 2, ?_⟩
    have h0 : 0 < s.data.toList.length := by omega
    have h1' : 1 < s.data.toList.length := by omega
    have a0 : s.data.toList = s.data.toList[0] :: s.data.toList.drop 1 := by
      conv => lhs; rw [← List.drop_zero (l := s.data.toList)]
      rw [List.drop_eq_getElem_cons h0]
    have a1 : s.data.toList.drop 1 = s.data.toList[1] :: s.data.toList.drop 2 := List.drop_eq_getElem_cons h1'
    conv => lhs; rw [a0, a1]
    rfl
  obtain ⟨t, e⟩ := e
  rw [e, Hx.decode_two]
  have h2 := (digB_iff _).1 d0
  have h3 := (digB_iff _).1 d1
  rw [if_neg (by omega), if_neg (by omega)]
  simp

set_option maxHeartbeats 1000000 in
set_option maxRecDepth 100000 in
theorem walk (s0 : ByteArray) (w : World) (g0 : s0.size ≤ 140737488351232) (hE : ErrIs w) :
    Calls Tryd.prog 9 #[.string s0] w fun e w' => e = .returned (.bool true) ∧ Below w.heap.size w w' := by
  obtain ⟨ea, hE⟩ := hE
  have HE := Lib.hid hE
  clear hE
  go_enter Tryd.func9, Tryd.ntmps9
  go_wp2_with fail
  refine (decText s0 _ ea HE.out (by omega)).mono ?_
  rintro e w1 ⟨A, n, c, b0, b1, b2, rfl, hr, hn, hc1, hc2, hn2, hb0, hb1, hb2, hbw, hE1⟩
  have hB := Lib.hid (hbw.alloc hbw.size (.cells #[.bool b0, .bool b1, .int .u8 b2] 24))
  have HR := Lib.hid (hr.out.alloc (.cells #[.bool b0, .bool b1, .int .u8 b2] 24))
  clear hbw
  go_wp2_with fail
  refine (encodeText _ _ _ _ _ HR.out (by omega)).mono ?_
  rintro e w2 ⟨t, rfl, ht, hzt, hbt⟩
  have hB2 := Lib.hid (hB.out.trans (hbt.mono hB.out.size))
  clear hbt
  have z1 : t.size ≤ s0.size := by have := hzt.out; omega
  have hfin : ∀ u : ByteArray, u.toList = (s0.extract 0 t.size).toList.map Hex.lower → (u.toList == t.toList) = true := fun u hu => by
    rw [beq_iff_eq, hu, ht.out, Hex.begins, ext_list, List.drop_zero, Nat.sub_zero, hzt.out, hn.out]
  have HF := Lib.hid hfin
  clear hfin
  have hxs : (s0.extract 0 t.size).size ≤ 562949953421312 := by
    have : (s0.extract 0 t.size).size = min t.size s0.size - 0 := ByteArray.size_extract
    omega
  have HXS := Lib.hid hxs
  clear hxs
  have fin : Hid (∀ (w3 : World) (u : ByteArray), Below w2.heap.size w2 w3 → Below w.heap.size w w3) := fun w3 u hb => hB2.out.trans (hb.mono hB2.out.size)
  by_cases h1 : 1 < s0.size
  · have hp := Lib.hid (pair_some s0 h1)
    cases hd0 : digB (s0[0]'(by omega))
    · go_wp2_with (first | (go_at_call 16; refine (digit_any _ _).mono ?_; rintro e w' ⟨rfl, rfl⟩) | (go_at_call 23; refine (small_any _ _ HXS.out).mono ?_; rintro e w3 ⟨u, rfl, hu, hb3⟩; have q := HF.out u hu.out))
      go_ret
      exact ⟨ret_true (by simp), fin.out w3 u hb3⟩
    · cases hd1 : digB (s0[1]'h1)
      · go_wp2_with (first | (go_at_call 16; refine (digit_any _ _).mono ?_; rintro e w' ⟨rfl, rfl⟩) | (go_at_call 23; refine (small_any _ _ HXS.out).mono ?_; rintro e w3 ⟨u, rfl, hu, hb3⟩; have q := HF.out u hu.out))
        go_ret
        exact ⟨ret_true (by simp), fin.out w3 u hb3⟩
      · have hpos : 0 < n := by have := hp.out hd0 hd1; rwa [hn.out] at this
        go_wp2_with (first | (go_at_call 16; refine (digit_any _ _).mono ?_; rintro e w' ⟨rfl, rfl⟩) | (go_at_call 23; refine (small_any _ _ HXS.out).mono ?_; rintro e w3 ⟨u, rfl, hu, hb3⟩; have q := HF.out u hu.out))
        go_ret
        exact ⟨ret_true (by simp), fin.out w3 u hb3⟩
  · go_wp2_with (go_at_call 23; refine (small_any _ _ HXS.out).mono ?_; rintro e w3 ⟨u, rfl, hu, hb3⟩; have q := HF.out u hu.out)
    go_ret
    exact ⟨ret_true (by simp), fin.out w3 u hb3⟩

/-- What the walk gives, said of whatever the row reads. -/
theorem contract (H : Type) (enc : TypeId × Value → H) (W : World) (base : Nat) (args : Array Value) (ds gs : List (DataW H)) (before : List MemPlace)
    (hval : ∀ (j : Nat) t v, Tryd.f9.params[j]? = some t → args[j]? = some v → Value.okWide Tryd.prog W .any base t v)
    (hW : DataW.Whole enc Tryd.prog Tryd.f9.params.toList Rows.fnDecodeBeginsSpec.vars false W args.toList ds gs before)
    (hsz : (DataW.weightsEach Tryd.prog (Tryd.f9.params.toList ++ Rows.fnDecodeBeginsSpec.plain.varTypes Tryd.prog) (ds ++ gs)).all (· ≤ reachBytes) = true) (hE : ErrIs W) :
    Calls Tryd.prog 9 args W fun e W' => ∃ v, e = .returned v ∧ Rows.fnDecodeBeginsSpec.post enc Tryd.prog Tryd.f9 false true false false W args v W' := by
  have hW' := hW
  obtain ⟨p, q, hA0, hV, rfl, _, _⟩ := hW
  have hA : DataW.TrodAll enc Tryd.prog W 0 (fun _ => true) true Tryd.f9.params.toList args.toList ds p := hA0
  clear hA0
  rw [Tryd.params9] at hA hval hsz
  obtain ⟨v0, vs0, d0, ds0, p0, q0, hargs, rfl, rfl, h0, r0⟩ := trodAll_cons hA
  obtain ⟨rfl, rfl, rfl⟩ := trodAll_nil r0
  obtain rfl : args = #[v0] := by cases args; simp_all
  obtain ⟨rfl, rfl⟩ := trodVars_none hV
  have k0 := h0
  have lt0 : ∀ x ∈ p0, x.block < W.heap.size := by obtain ⟨m, hm⟩ := k0; exact DataW.trod_lt m _ _ _ hm
  obtain ⟨s0, rfl, rfl, rfl, w0⟩ := open_string Tryd.underlying9 (hval 0 9 v0 rfl rfl) h0
  obtain ⟨g0, u0⟩ := argS (H := H) (weigh hsz (j := 0) rfl rfl)
  refine (walk s0 W g0 hE).mono fun e W' ⟨he, bel⟩ => ?_
  subst he
  exact ⟨_, rfl, _, _, _, [], _, [], hW', trodAll_mk1 (shut_bool Tryd.underlying4 _), (trodAll_cons_mk (Below.trod laidOut (by kernel_rfl) (of_decide_eq_true (by kernel_rfl)) k0 bel lt0) trodAll_mk0), rfl, bel.frame _, fun h => by cases h⟩

theorem reads (os : Os) {H : Type} (enc : TypeId × Value → H) : ∃ places, DataW.whole enc Tryd.prog ((World.doorLaid Tryd.prog 400 os).forCall (fun _ _ => 0) ⟨#[], #[.string ⟨#[]⟩], []⟩).memory Tryd.f9.params.toList Rows.fnDecodeBeginsSpec.vars false (#[.string ⟨#[]⟩] : Array Value).toList 8 = some ([.lit (.string [])], [], places) :=
  ⟨[], by kernel_rfl⟩

set_option maxRecDepth 100000 in
theorem lifted (os : Os) (started : os.Started) (H : Type) (enc : TypeId × Value → H) (F : Stop.Interp) :
    ReturnsInHanded {} Tryd.checked os 9 .any ((OpenSpec.ofChange Rows.fnDecodeBeginsSpec).preRow enc Tryd.prog Tryd.f9 Rows.fnDecodeBeginsRow.domain false Rows.fnDecodeBeginsRow.laid) (((OpenSpec.ofChange Rows.fnDecodeBeginsSpec).at F).post enc Tryd.prog Tryd.f9 false true false false) := by
  obtain ⟨places, hx⟩ := reads os enc
  refine returnsInHanded_of_row (C := Tryd.checked) (s := OpenSpec.ofChange Rows.fnDecodeBeginsSpec) own started (by kernel_rfl) Tryd.func9
    (witness_row_atRef (enc := enc) (C := Tryd.checked) false (World.doorLaid Tryd.prog 400 os) #[.string ⟨#[]⟩] rfl (by kernel_rfl) (by kernel_rfl) (by kernel_rfl)
      (OpenSpec.preRow_of_cond 8 hx (by kernel_rfl) (fun k hk => by cases hk) (by kernel_rfl) (door_met os _))) ?_
  intro W base args ds gs before hval hW _ _ hsz hL _ _
  exact contract H enc W base args ds gs before hval hW hsz (errIs_of hL)

theorem over : Rows.FnDecodeBeginsSaid :=
  OpenClaim.holds_of_cond 9 Tryd.f9 rfl rfl rfl rfl rfl rfl rfl ⟨rfl, rfl, rfl, rfl, rfl⟩ rfl rfl rfl rfl rfl (by kernel_rfl) Tryd.func9 (by kernel_rfl)
    (of_decide_eq_true (by kernel_rfl)) (by unfold Func.isWrapper; first | (rw [if_pos (by decide +kernel)]; kernel_rfl) | (rw [if_neg (by decide +kernel)]; exact ⟨rfl, rfl⟩))
    (fun os started H enc _ F => by rw [OpenClaim.pre_eq_preRow]; exact lifted os started H enc F)

theorem plain (f : FuncId) (fn : Func) (hf : Tryd.pinned.checked.prog.funcNamed Rows.fnDecodeBeginsRow.func = some f) (hfn : Tryd.pinned.checked.prog.funcs[f]? = some fn) :
    true = Tryd.pinned.checked.prog.looks [] ∧ ∀ (j : Nat) t, fn.params[j]? = some t → Tryd.pinned.checked.prog.wantsStandIn t = false := by
  obtain rfl : f = 9 := Option.some.inj ((show Tryd.prog.funcNamed Rows.fnDecodeBeginsRow.func = some 9 by kernel_rfl).symm.trans hf) |>.symm
  obtain rfl : fn = Tryd.f9 := (Option.some.inj (Tryd.func9.symm.trans hfn)).symm
  refine ⟨by kernel_rfl, fun j t ht => ?_⟩
  rw [Tryd.params9] at ht
  have hm := Array.mem_of_getElem? ht
  simp at hm
  first
    | (subst hm; exact (show Tryd.prog.wantsStandIn _ = false by kernel_rfl))
    | (rcases hm with rfl | rfl <;> exact (show Tryd.prog.wantsStandIn _ = false by kernel_rfl))
    | (rcases hm with rfl | rfl | rfl <;> exact (show Tryd.prog.wantsStandIn _ = false by kernel_rfl))

theorem proved : Rows.FnDecodeBeginsCardSaid :=
  Claim7.holds_tied_plain_at .later [] _ _ _ _ over (fun _ h => by cases h) (by kernel_rfl) (fun _ h => by cases h) fnDecodeBegins_row_tie rfl ⟨rfl, rfl⟩ (by kernel_rfl) rfl plain (by kernel_rfl)
end Go.Proofs.YtmhhhigkgfcmpaaDoor.fnDecodeBegins
