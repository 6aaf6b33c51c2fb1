/-
  FnDecodeUpper: digits may be great letters, some or all, for every argument that the form reaches; encoding/hex.ErrLength starts as the program lays it.
-/
import Derived.Test.YtmhhhigkgfcmpaaDoorCommon
import Derived.Test.YtmhhhigkgfcmpaaDoorSmall
import Derived.Test.YtmhhhigkgfcmpaaDoorLaid
namespace Go.Proofs.YtmhhhigkgfcmpaaDoor.fnDecodeUpper
open Go.ChangeShapes Go.WideShapes Go.ChangeAt Go.RowKit Go.Lib
open Go.ChangeMaps (open_string shut_string)
set_option linter.unusedVariables false

theorem v_upper (c : UInt8) (h1 : 97 ≤ c.toNat) (h2 : c.toNat ≤ 102) : Hx.v (UInt8.ofNat (c.toNat - 32)) = Hx.v c := by
  revert h1 h2
  refine Hex.of_all (fun c => 97 ≤ c.toNat → c.toNat ≤ 102 → Hx.v (UInt8.ofNat (c.toNat - 32)) = Hx.v c) ?_ c
  decide +kernel

theorem map_set {l E : List UInt8} (h : l.map Hx.v = E.map Hx.v) (k : Nat) (c d : UInt8) (hc : l[k]? = some c) (hv : Hx.v d = Hx.v c) : (l.set k d).map Hx.v = E.map Hx.v := by
  rw [List.map_set, hv, ← h]
  obtain ⟨hk, e⟩ := List.getElem?_eq_some_iff.1 hc
  rw [← e]
  have hk' : k < (l.map Hx.v).length := by rw [List.length_map]; exact hk
  have e2 : Hx.v l[k] = (l.map Hx.v)[k]'hk' := by rw [List.getElem_map]
  rw [e2, List.set_getElem_self]

theorem drop_set {l E : List UInt8} (k : Nat) (d : UInt8) (h : l.drop k = E.drop k) : (l.set k d).drop (k + 1) = E.drop (k + 1) := by
  rw [List.drop_set_of_lt (by omega)]
  have := congrArg (List.drop 1) h
  rwa [List.drop_drop, List.drop_drop] at this

theorem drop_on {l E : List UInt8} (k : Nat) (h : l.drop k = E.drop k) : l.drop (k + 1) = E.drop (k + 1) := by
  have := congrArg (List.drop 1) h
  rwa [List.drop_drop, List.drop_drop] at this

set_option maxHeartbeats 1000000 in
set_option maxRecDepth 100000 in
theorem walk (A0 : Option Addr) (n0 c0 : Nat) (l0 : List UInt8) (A1 : Option Addr) (n1 c1 : Nat) (l1 : List UInt8) (w : World) (h0 : RB w A0 n0 l0) (e0 : n0 ≤ c0) (g0 : c0 ≤ 140737488351232) (h1 : RB w A1 n1 l1) (e1 : n1 ≤ c1) (g1 : c1 ≤ 140737488351232) (hE : ErrIs w) :
    Calls Tryd.prog 14 #[.slice A0 n0 c0, .slice A1 n1 c1] w fun e w' => e = .returned (.bool true) ∧ Below w.heap.size w w' := by
  obtain ⟨ea, hE⟩ := hE
  have HE := Lib.hid hE
  have HB0 := Lib.hid h0
  have HB1 := Lib.hid h1
  clear hE h0 h1
  go_enter Tryd.func14, Tryd.ntmps14
  go_wp2_with fail
  refine (encodeText _ _ _ l0 _ HB0.out (by omega)).mono ?_
  rintro e w1 ⟨t, rfl, ht, hzt, hbt⟩
  have hcv := fun W => Lib.run_convert_string_bytes (P := Tryd.prog) W 9 22 5 t Tryd.underlying9 Tryd.underlying22 Tryd.underlying5
  have hB1 := Lib.hid (hbt.trans ((below_bytesWorld w1 t).mono hbt.size))
  have hge : w.heap.size ≤ w1.heap.size := hbt.size
  have hEnc := Lib.hid (show t.data.toList = Hx.encode l0 by rw [← Go.ByteArray.toList_eq]; exact ht.out)
  have hz3 : t.size ≤ 281474976710656 := by have := hzt.out; omega
  clear hbt
  go_wp2_with fail
  clear hcv
  go_loopw [6] (fun i wr => ∃ (k : Nat) (l : List UInt8), k ≤ t.size ∧ i = .int .i64 k ∧ Hid (WL wr w1.heap.size l) ∧ Hid (l.length = t.size) ∧ Hid (l.map Hx.v = (Hx.encode l0).map Hx.v) ∧ Hid (l.drop k = (Hx.encode l0).drop k) ∧ Hid (Below w.heap.size w wr)) (fun i _ => t.size - (intOf i).toNat)
  case atStart => exact ⟨0, t.data.toList, Nat.zero_le _, rfl, WL.ofText w1 t, Array.length_toList, by rw [hEnc.out]; rfl, by rw [hEnc.out]; rfl, hB1.out⟩
  case round =>
    obtain ⟨k, l, hk, rfl, hw, hl, hm, hd, hb⟩ := hrel
    by_cases hlt : k < t.size
    · obtain ⟨cc, hcc⟩ : ∃ cc, l[k]? = some cc := ⟨_, List.getElem?_eq_getElem (by rw [hl.out]; exact hlt)⟩
      have hlow : (48 ≤ cc.toNat ∧ cc.toNat ≤ 57) ∨ (97 ≤ cc.toNat ∧ cc.toNat ≤ 102) := by
        have h1 : (Hx.encode l0)[k]? = some cc := by
          have h2 := congrArg (fun z => z[0]?) hd.out
          simp only [List.getElem?_drop, Nat.add_zero] at h2
          rw [← h2]; exact hcc
        exact Hex.encode_all l0 cc (List.mem_of_getElem? h1)
      have hcell0 := hw.out.cell hcc
      have hfree := hw.out.free hcc
      obtain ⟨x, hxk⟩ : ∃ x : Int, x = (cc.toNat : Int) := ⟨_, rfl⟩
      have hcell : wr.cell? ⟨w1.heap.size, k, none⟩ = some (.int .u8 x) := by rw [hxk]; exact hcell0
      have hx0 : 0 ≤ x := by omega
      have hx1 : x < 256 := by have := cc.toNat_lt; omega
      have HX := Lib.hid hxk
      have HC := Lib.hid hcc
      have HLow := Lib.hid hlow
      have keep : Hid (∃ l2 : List UInt8, WL wr w1.heap.size l2 ∧ l2.length = t.size ∧ l2.map Hx.v = (Hx.encode l0).map Hx.v ∧ l2.drop (k + 1) = (Hx.encode l0).drop (k + 1)) := ⟨l, hw.out, hl.out, hm.out, drop_on k hd.out⟩
      clear hxk hcc hcell0 hlow
      by_cases h97 : 97 ≤ x
      · by_cases hk1 : k < n1
        · obtain ⟨b, o, mc, rfl, hbs, hmc, hmcell⟩ := HB1.out.at_ hk1
          obtain ⟨m, hmm⟩ : ∃ m : Int, m = (mc.toNat : Int) := ⟨_, rfl⟩
          have hmask : wr.cell? ⟨b, o + k, none⟩ = some (.int .u8 m) := by rw [hmm]; exact (hb.out.cell (p := ⟨b, o + k, none⟩) hbs).trans hmcell
          have hm0 : 0 ≤ m := by omega
          have hm1 : m < 256 := by have := mc.toNat_lt; omega
          clear hmm hmc hmcell
          cases hodd : ((m % 2 == 1) : Bool)
          · go_wp2_with fail
            obtain ⟨l2, k1, k2, k3, k4⟩ := keep.out
            exact ⟨⟨k + 1, l2, by omega, by go_num, k1, k2, k3, k4, hb⟩, by simp [intOf]; omega⟩
          · have hnew : Hid (WL (wr.setCell ⟨w1.heap.size, k, none⟩ (.int .u8 (x - 97 + 65))) w1.heap.size (l.set k (UInt8.ofNat (cc.toNat - 32)))) := by
              have h3 := hw.out.set k (UInt8.ofNat (cc.toNat - 32)) (by rw [hl.out]; exact hlt)
              have e : ((UInt8.ofNat (cc.toNat - 32)).toNat : Int) = x - 97 + 65 := by
                have := HX.out
                rw [UInt8.toNat_ofNat']
                omega
              rw [e] at h3
              exact h3
            have hbn : Hid (Below w.heap.size w (wr.setCell ⟨w1.heap.size, k, none⟩ (.int .u8 (x - 97 + 65)))) := hb.out.setCell hge _
            go_wp2_with fail
            refine ⟨⟨k + 1, l.set k (UInt8.ofNat (cc.toNat - 32)), by omega, by go_num, hnew, ?_, ?_, drop_set k _ hd.out, hbn⟩, by simp [intOf]; omega⟩
            · show (l.set k _).length = t.size
              rw [List.length_set, hl.out]
            · have := HX.out
              have := HLow.out
              exact map_set hm.out k cc _ HC.out (v_upper cc (by omega) (by omega))
        · go_wp2_with fail
          obtain ⟨l2, k1, k2, k3, k4⟩ := keep.out
          exact ⟨⟨k + 1, l2, by omega, by go_num, k1, k2, k3, k4, hb⟩, by simp [intOf]; omega⟩
      · go_wp2_with fail
        obtain ⟨l2, k1, k2, k3, k4⟩ := keep.out
        exact ⟨⟨k + 1, l2, by omega, by go_num, k1, k2, k3, k4, hb⟩, by simp [intOf]; omega⟩
    · have hrb : RB wr (some ⟨w1.heap.size, 0, none⟩) t.size l := by have := hw.out.rb; rwa [hl.out] at this
      have q := conv hrb (grownCap w1 t.size 0 5)
      have hdec := Lib.hid (Hex.decode_like l l0 hm.out)
      have hll : Hid ((⟨l.toArray⟩ : ByteArray).toList = l) := by simp [Hid, Go.ByteArray.toList_eq]
      have hls : Hid ((⟨l.toArray⟩ : ByteArray).size = t.size) := by
        show l.toArray.size = _
        rw [List.size_toArray, hl.out]
      have HEr := Lib.hid (HE.out.below hb.out)
      clear hrb
      go_wp2_with fail
      refine (decText ⟨l.toArray⟩ _ ea HEr.out (by rw [hls.out]; omega)).mono ?_
      rintro e w2 ⟨A, n, c, b0, b1, b2, rfl, hr, hn, hc1, hc2, hn2, hb0, hb1, hb2, hbw, hE1⟩
      have hr' := hr.out
      have hb0' := hb0.out
      rw [hll.out, hdec.out] at hr' hb0'
      obtain rfl : b0 = false := hb0'
      have hB2 := Lib.hid (hb.out.trans (hbw.mono hb.out.size))
      have hB3 := Lib.hid (hB2.out.alloc hB2.out.size (.cells #[.bool false, .bool b1, .int .u8 b2] 24))
      have HRa := Lib.hid (hr'.alloc (.cells #[.bool false, .bool b1, .int .u8 b2] 24))
      have HRb := Lib.hid ((HB0.out.below hB2.out).alloc (.cells #[.bool false, .bool b1, .int .u8 b2] 24))
      clear hr' hbw q
      go_wp2_with (go_at_call 18; refine (same_any _ _ _ _ _ _ _ _ _ HRa.out HRb.out).mono ?_; rintro e w3 ⟨rfl, rfl⟩)
      go_ret
      exact ⟨ret_true (by simp), hB3.out⟩

/-- What the walk gives, said of whatever the row reads. -/
theorem contract (H : Type) (enc : TypeId × Value → H) (W : World) (base : Nat) (args : Array Value) (ds gs : List (DataW H)) (before : List MemPlace)
    (hval : ∀ (j : Nat) t v, Tryd.f14.params[j]? = some t → args[j]? = some v → Value.okWide Tryd.prog W .any base t v)
    (hW : DataW.Whole enc Tryd.prog Tryd.f14.params.toList Rows.fnDecodeUpperSpec.vars false W args.toList ds gs before)
    (hsz : (DataW.weightsEach Tryd.prog (Tryd.f14.params.toList ++ Rows.fnDecodeUpperSpec.plain.varTypes Tryd.prog) (ds ++ gs)).all (· ≤ reachBytes) = true) (hE : ErrIs W) :
    Calls Tryd.prog 14 args W fun e W' => ∃ v, e = .returned v ∧ Rows.fnDecodeUpperSpec.post enc Tryd.prog Tryd.f14 false true false false W args v W' := by
  have hW' := hW
  obtain ⟨p, q, hA0, hV, rfl, _, _⟩ := hW
  have hA : DataW.TrodAll enc Tryd.prog W 0 (fun _ => true) true Tryd.f14.params.toList args.toList ds p := hA0
  clear hA0
  rw [Tryd.params14] at hA hval hsz
  obtain ⟨v0, vs0, d0, ds0, p0, q0, hargs, rfl, rfl, h0, r0⟩ := trodAll_cons hA
  obtain ⟨v1, vs1, d1, ds1, p1, q1, rfl, rfl, rfl, h1, r1⟩ := trodAll_cons r0
  obtain ⟨rfl, rfl, rfl⟩ := trodAll_nil r1
  obtain rfl : args = #[v0, v1] := by cases args; simp_all
  obtain ⟨rfl, rfl⟩ := trodVars_none hV
  have k0 := h0
  have lt0 : ∀ x ∈ p0, x.block < W.heap.size := by obtain ⟨m, hm⟩ := k0; exact DataW.trod_lt m _ _ _ hm
  have k1 := h1
  have lt1 : ∀ x ∈ p1, x.block < W.heap.size := by obtain ⟨m, hm⟩ := k1; exact DataW.trod_lt m _ _ _ hm
  obtain ⟨A0, n0, c0, rfl⟩ := okWide_slice Tryd.underlying22 (hval 0 22 v0 rfl rfl)
  obtain ⟨l0, h0r, e0, g0, u0⟩ := argB h0 (weigh hsz (j := 0) rfl rfl)
  obtain ⟨A1, n1, c1, rfl⟩ := okWide_slice Tryd.underlying22 (hval 1 22 v1 rfl rfl)
  obtain ⟨l1, h1r, e1, g1, u1⟩ := argB h1 (weigh hsz (j := 1) rfl rfl)
  refine (walk A0 n0 c0 l0 A1 n1 c1 l1 W h0r e0 g0 h1r e1 g1 hE).mono fun e W' ⟨he, bel⟩ => ?_
  subst he
  exact ⟨_, rfl, _, _, _, [], _, [], hW', trodAll_mk1 (shut_bool Tryd.underlying4 _), (trodAll_cons_mk (Below.trod laidOut (by kernel_rfl) (of_decide_eq_true (by kernel_rfl)) k0 bel lt0) (trodAll_cons_mk (Below.trod laidOut (by kernel_rfl) (of_decide_eq_true (by kernel_rfl)) k1 bel lt1) trodAll_mk0)), rfl, bel.frame _, fun h => by cases h⟩

theorem reads (os : Os) {H : Type} (enc : TypeId × Value → H) : ∃ places, DataW.whole enc Tryd.prog ((World.doorLaid Tryd.prog 400 os).forCall (fun _ _ => 0) ⟨#[], #[.slice none 0 0, .slice none 0 0], []⟩).memory Tryd.f14.params.toList Rows.fnDecodeUpperSpec.vars false (#[.slice none 0 0, .slice none 0 0] : Array Value).toList 8 = some ([.nil, .nil], [], places) :=
  ⟨[], by kernel_rfl⟩

set_option maxRecDepth 100000 in
theorem lifted (os : Os) (started : os.Started) (H : Type) (enc : TypeId × Value → H) (F : Stop.Interp) :
    ReturnsInHanded {} Tryd.checked os 14 .any ((OpenSpec.ofChange Rows.fnDecodeUpperSpec).preRow enc Tryd.prog Tryd.f14 Rows.fnDecodeUpperRow.domain false Rows.fnDecodeUpperRow.laid) (((OpenSpec.ofChange Rows.fnDecodeUpperSpec).at F).post enc Tryd.prog Tryd.f14 false true false false) := by
  obtain ⟨places, hx⟩ := reads os enc
  refine returnsInHanded_of_row (C := Tryd.checked) (s := OpenSpec.ofChange Rows.fnDecodeUpperSpec) own started (by kernel_rfl) Tryd.func14
    (witness_row_atRef (enc := enc) (C := Tryd.checked) false (World.doorLaid Tryd.prog 400 os) #[.slice none 0 0, .slice none 0 0] rfl (by kernel_rfl) (by kernel_rfl) (by kernel_rfl)
      (OpenSpec.preRow_of_cond 8 hx (by kernel_rfl) (fun k hk => by cases hk) (by kernel_rfl) (door_met os _))) ?_
  intro W base args ds gs before hval hW _ _ hsz hL _ _
  exact contract H enc W base args ds gs before hval hW hsz (errIs_of hL)

theorem over : Rows.FnDecodeUpperSaid :=
  OpenClaim.holds_of_cond 14 Tryd.f14 rfl rfl rfl rfl rfl rfl rfl ⟨rfl, rfl, rfl, rfl, rfl⟩ rfl rfl rfl rfl rfl (by kernel_rfl) Tryd.func14 (by kernel_rfl)
    (of_decide_eq_true (by kernel_rfl)) (by unfold Func.isWrapper; first | (rw [if_pos (by decide +kernel)]; kernel_rfl) | (rw [if_neg (by decide +kernel)]; exact ⟨rfl, rfl⟩))
    (fun os started H enc _ F => by rw [OpenClaim.pre_eq_preRow]; exact lifted os started H enc F)

theorem plain (f : FuncId) (fn : Func) (hf : Tryd.pinned.checked.prog.funcNamed Rows.fnDecodeUpperRow.func = some f) (hfn : Tryd.pinned.checked.prog.funcs[f]? = some fn) :
    true = Tryd.pinned.checked.prog.looks [] ∧ ∀ (j : Nat) t, fn.params[j]? = some t → Tryd.pinned.checked.prog.wantsStandIn t = false := by
  obtain rfl : f = 14 := Option.some.inj ((show Tryd.prog.funcNamed Rows.fnDecodeUpperRow.func = some 14 by kernel_rfl).symm.trans hf) |>.symm
  obtain rfl : fn = Tryd.f14 := (Option.some.inj (Tryd.func14.symm.trans hfn)).symm
  refine ⟨by kernel_rfl, fun j t ht => ?_⟩
  rw [Tryd.params14] at ht
  have hm := Array.mem_of_getElem? ht
  simp at hm
  first
    | (subst hm; exact (show Tryd.prog.wantsStandIn _ = false by kernel_rfl))
    | (rcases hm with rfl | rfl <;> exact (show Tryd.prog.wantsStandIn _ = false by kernel_rfl))
    | (rcases hm with rfl | rfl | rfl <;> exact (show Tryd.prog.wantsStandIn _ = false by kernel_rfl))

theorem proved : Rows.FnDecodeUpperCardSaid :=
  Claim7.holds_tied_plain_at .later [] _ _ _ _ over (fun _ h => by cases h) (by kernel_rfl) (fun _ h => by cases h) fnDecodeUpper_row_tie rfl ⟨rfl, rfl⟩ (by kernel_rfl) rfl plain (by kernel_rfl)
end Go.Proofs.YtmhhhigkgfcmpaaDoor.fnDecodeUpper
