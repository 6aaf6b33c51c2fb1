/-
  FnDecodeJoin: behind a text without a fault, another text is decoded as by itself, for every argument that the form reaches; encoding/hex.ErrLength starts as the program lays it.
-/
import Derived.Test.YtnplhpckjcmgmaaDoorCommon
import Derived.Test.YtnplhpckjcmgmaaDoorSmall
import Derived.Test.YtnplhpckjcmgmaaDoorAppend
import Derived.Test.YtnplhpckjcmgmaaDoorRegion
import Derived.Test.YtnplhpckjcmgmaaDoorText
import Derived.Test.YtnplhpckjcmgmaaDoorLaid
namespace Go.Proofs.YtnplhpckjcmgmaaDoor.fnDecodeJoin
open Go.ChangeShapes Go.WideShapes Go.ChangeAt Go.RowKit Go.Lib
open Go.ChangeMaps (open_string shut_string)
set_option linter.unusedVariables false

theorem dec_app (b : List UInt8) : ∀ n (a : List UInt8), a.length ≤ n → Hex.bad (Hx.decode a).2 = false → Hx.decode (a ++ b) = ((Hx.decode a).1 ++ (Hx.decode b).1, (Hx.decode b).2) ∧ 2 * (Hx.decode a).1.length = a.length := by
  intro n
  induction n with
  | zero =>
    intro a ha _
    have e : a = [] := List.eq_nil_of_length_eq_zero (by omega)
    subst e
    simp [Hx.decode_nil]
  | succ n ih =>
    intro a ha hbad
    match a with
    | [] => simp [Hx.decode_nil]
    | [c] =>
      exfalso
      rw [Hx.decode_one] at hbad
      by_cases h : 15 < Hx.v c
      · rw [if_pos h] at hbad; cases hbad
      · rw [if_neg h] at hbad; cases hbad
    | p :: q :: t =>
      rw [Hx.decode_two] at hbad
      by_cases h1 : 15 < Hx.v p
      · rw [if_pos h1] at hbad; cases hbad
      · rw [if_neg h1] at hbad
        by_cases h2 : 15 < Hx.v q
        · rw [if_pos h2] at hbad; cases hbad
        · rw [if_neg h2] at hbad
          obtain ⟨e1, e2⟩ := ih t (by simp at ha; omega) hbad
          constructor
          · rw [List.cons_append, List.cons_append, Hx.decode_two, if_neg h1, if_neg h2, Hx.decode_two, if_neg h1, if_neg h2, e1]
            rfl
          · rw [Hx.decode_two, if_neg h1, if_neg h2]
            simp only [List.length_cons]
            omega

set_option maxHeartbeats 1000000 in
set_option maxRecDepth 100000 in
theorem walk (A0 : Option Addr) (n0 c0 : Nat) (l0 : List UInt8) (w : World) (h0 : RB w A0 n0 l0) (e0 : n0 ≤ c0) (g0 : c0 ≤ 140737488351232) (hE : ErrIs w) :
    Calls Tryd.prog 4 #[.slice A0 n0 c0] w fun e w' => e = .returned (.bool true) ∧ Below w.heap.size w w' := by
  obtain ⟨ea, hE⟩ := hE
  have HE := Lib.hid hE
  have HB0 := Lib.hid h0
  clear hE h0
  go_enter Tryd.func4, Tryd.ntmps4
  go_wp2_with fail
  refine (drawTexts _ _ _ l0 _ HB0.out (by omega)).mono ?_
  rintro e w0 ⟨X, Y, a, d, b, d', xs, ys, rfl, ha, hb, hX, hY, hbw0⟩
  have HW0 := Lib.hid hbw0
  have HE0 := Lib.hid (HE.out.below hbw0)
  obtain ⟨sa, hsa⟩ : ∃ sa : ByteArray, sa = ⟨xs.toArray⟩ := ⟨_, rfl⟩
  obtain ⟨sb, hsb⟩ : ∃ sb : ByteArray, sb = ⟨ys.toArray⟩ := ⟨_, rfl⟩
  have HSa : Hid (sa.toList = xs) := by rw [Hid, hsa]; simp [Go.ByteArray.toList_eq]
  have HSb : Hid (sb.toList = ys) := by rw [Hid, hsb]; simp [Go.ByteArray.toList_eq]
  have hza : sa.size ≤ 20 := by rw [hsa]; show xs.toArray.size ≤ 20; rw [List.size_toArray, hX.out.len]; exact ha
  have hzb : sb.size ≤ 20 := by rw [hsb]; show ys.toArray.size ≤ 20; rw [List.size_toArray, hY.out.len]; exact hb
  have q0 := conv hX.out d
  rw [← hsa] at q0
  have HQa : Hid (∀ W, RB W X a xs → (convert 22 9 (.slice X a d)).run Tryd.prog W = .ok (.string sa) W) := fun W h => by rw [hsa]; exact conv h d
  have HQb : Hid (∀ W, RB W Y b ys → (convert 22 9 (.slice Y b d')).run Tryd.prog W = .ok (.string sb) W) := fun W h => by rw [hsb]; exact conv h d'
  have HLa : Hid (xs.length = a) := hX.out.len
  clear hbw0 hsa hsb
  go_wp2_with fail
  refine (decText sa _ ea HE0.out (by omega)).mono ?_
  rintro e w1 ⟨A1, n1, c1, b0, b1, b2, rfl, hr1, hn1, hc11, hc12, hn12, hb0, hb1, hbb2, hbw1, hE1⟩
  have HR1 := Lib.hid (hr1.out.alloc (.cells #[.bool b0, .bool b1, .int .u8 b2] 24))
  have HX1 := Lib.hid ((hX.out.below hbw1).alloc (.cells #[.bool b0, .bool b1, .int .u8 b2] 24))
  have HY1 := Lib.hid ((hY.out.below hbw1).alloc (.cells #[.bool b0, .bool b1, .int .u8 b2] 24))
  have HE1 := Lib.hid (hE1.out.below ((Below.refl _ w1).alloc (Nat.le_refl _) (.cells #[.bool b0, .bool b1, .int .u8 b2] 24)))
  have HW1 := Lib.hid ((HW0.out.trans (hbw1.mono HW0.out.size)).alloc (Nat.le_trans HW0.out.size hbw1.size) (.cells #[.bool b0, .bool b1, .int .u8 b2] 24))
  have HC1 : Hid ((w1.alloc (.cells #[.bool b0, .bool b1, .int .u8 b2] 24)).cell? ⟨w1.heap.size, 0, none⟩ = some (.bool b0)) := by unfold Hid; simp [go_sem]
  have q1 := HQb.out _ HY1.out
  clear hbw1 q0
  go_wp2_with fail
  refine (decText sb _ ea HE1.out (by omega)).mono ?_
  rintro e w2 ⟨A2, n2, c2, e0, e1, e2, rfl, hr2, hn2, hc21, hc22, hn22, he0, he1, hee2, hbw2, hE2⟩
  have HR2 := Lib.hid (hr2.out.alloc (.cells #[.bool e0, .bool e1, .int .u8 e2] 24))
  have HR1' := Lib.hid ((HR1.out.below hbw2).alloc (.cells #[.bool e0, .bool e1, .int .u8 e2] 24))
  have HX2 := Lib.hid ((HX1.out.below hbw2).alloc (.cells #[.bool e0, .bool e1, .int .u8 e2] 24))
  have HY2 := Lib.hid ((HY1.out.below hbw2).alloc (.cells #[.bool e0, .bool e1, .int .u8 e2] 24))
  have HE2 := Lib.hid (hE2.out.below ((Below.refl _ w2).alloc (Nat.le_refl _) (.cells #[.bool e0, .bool e1, .int .u8 e2] 24)))
  have HW2 := Lib.hid ((HW1.out.trans (hbw2.mono HW1.out.size)).alloc (Nat.le_trans HW1.out.size hbw2.size) (.cells #[.bool e0, .bool e1, .int .u8 e2] 24))
  have hsz2 : w1.heap.size < w2.heap.size := by have := hbw2.size; simp at this; omega
  have HC1' : Hid ((w2.alloc (.cells #[.bool e0, .bool e1, .int .u8 e2] 24)).cell? ⟨w1.heap.size, 0, none⟩ = some (.bool b0)) := (World.cell?_alloc_lt w2 (.cells #[.bool e0, .bool e1, .int .u8 e2] 24) ⟨w1.heap.size, 0, none⟩ hsz2).trans ((hbw2.cell (p := ⟨w1.heap.size, 0, none⟩) (by simp)).trans HC1.out)
  have HC2 : Hid ((w2.alloc (.cells #[.bool e0, .bool e1, .int .u8 e2] 24)).cell? ⟨w2.heap.size, 0, none⟩ = some (.bool e0)) := by unfold Hid; simp [go_sem]
  have q2 := HQa.out _ HX2.out
  have q3 := HQb.out _ HY2.out
  have hsz := Lib.hid (show (sa ++ sb).size = sa.size + sb.size by simp)
  have hsumb : sa.size + sb.size ≤ 9223372036854775807 := by omega
  clear hbw2 q1
  go_wp2_with fail
  refine (decText (sa ++ sb) _ ea HE2.out (by rw [hsz.out]; omega)).mono ?_
  rintro e w3 ⟨A3, n3, c3, f0, f1, f2, rfl, hr3, hn3, hc31, hc32, hn32, hf0, hf1, hff2, hbw3, hE3⟩
  have hsz3 : w2.heap.size < w3.heap.size := by have := hbw3.size; simp at this; omega
  have hF3 := Lib.hid ((Below.refl _ w3).alloc (Nat.le_refl _) (.cells #[.bool f0, .bool f1, .int .u8 f2] 24))
  have HRx := Lib.hid ((HR1'.out.below hbw3).alloc (.cells #[.bool f0, .bool f1, .int .u8 f2] 24))
  have HRy := Lib.hid ((HR2.out.below hbw3).alloc (.cells #[.bool f0, .bool f1, .int .u8 f2] 24))
  have HW3 := Lib.hid (HW2.out.trans (hbw3.mono HW2.out.size))
  have HW3' := Lib.hid (HW3.out.alloc HW3.out.size (.cells #[.bool f0, .bool f1, .int .u8 f2] 24))
  have k1 : (w3.alloc (.cells #[.bool f0, .bool f1, .int .u8 f2] 24)).cell? ⟨w1.heap.size, 0, none⟩ = some (.bool b0) := (World.cell?_alloc_lt w3 (.cells #[.bool f0, .bool f1, .int .u8 f2] 24) ⟨w1.heap.size, 0, none⟩ (Nat.lt_trans hsz2 hsz3)).trans ((hbw3.cell (p := ⟨w1.heap.size, 0, none⟩) (Nat.lt_trans hsz2 (by simp))).trans HC1'.out)
  have k2 : (w3.alloc (.cells #[.bool f0, .bool f1, .int .u8 f2] 24)).cell? ⟨w2.heap.size, 0, none⟩ = some (.bool e0) := (World.cell?_alloc_lt w3 (.cells #[.bool f0, .bool f1, .int .u8 f2] 24) ⟨w2.heap.size, 0, none⟩ hsz3).trans ((hbw3.cell (p := ⟨w2.heap.size, 0, none⟩) (by simp)).trans HC2.out)
  have k3 : (w3.alloc (.cells #[.bool f0, .bool f1, .int .u8 f2] 24)).cell? ⟨w3.heap.size, 0, none⟩ = some (.bool f0) := by simp [go_sem]
  have HRz := Lib.hid (hr3.out.alloc (.cells #[.bool f0, .bool f1, .int .u8 f2] 24))
  clear hbw3 q2 q3
  cases hbb : Hex.bad (Hx.decode xs).2 with
  | true =>
    obtain rfl : b0 = true := by rw [hb0.out, HSa.out]; exact hbb
    clear hbb
    go_wp2_with fail
    go_ret
    exact ⟨rfl, HW3'.out⟩
  | false =>
    obtain rfl : b0 = false := by rw [hb0.out, HSa.out]; exact hbb
    obtain ⟨hd, hdl⟩ := dec_app ys xs.length xs (Nat.le_refl _) hbb
    have hdec : Hx.decode (sa ++ sb).toList = ((Hx.decode xs).1 ++ (Hx.decode ys).1, (Hx.decode ys).2) := by rw [app_list, HSa.out, HSb.out, hd]
    obtain rfl : f0 = e0 := by rw [hf0.out, he0.out, hdec, HSb.out]
    have hlen : a / 2 ≤ n3 := by
      have h1 := hn3.out
      rw [hdec] at h1
      simp only [List.length_append] at h1
      have := HLa.out
      omega
    have hlen2 : (a : Int) / 2 ≤ (n3 : Int) := by omega
    have hlb : decide ((a : Int) / 2 ≤ (n3 : Int)) = true := by simpa using hlen2
    have HZ := HRz.out
    rw [hdec] at HZ
    have HRz' := Lib.hid HZ
    have HX' := HRx.out
    rw [HSa.out] at HX'
    have HRx' := Lib.hid HX'
    have HY' := HRy.out
    rw [HSb.out] at HY'
    have HRy' := Lib.hid HY'
    have hnx : n1 ≤ 20 := by omega
    have hny : n2 ≤ 20 := by omega
    have hBs := Lib.hid (hF3.out.alloc hF3.out.size (.cells #[] 5))
    have HO0 : Hid (OB ((w3.alloc (.cells #[.bool f0, .bool f1, .int .u8 f2] 24)).alloc (.cells #[] 5)) w3.heap.size (some ⟨w3.heap.size + 1, 0, none⟩) 0 0 []) := by
      have := OB.made (w3.alloc (.cells #[.bool f0, .bool f1, .int .u8 f2] 24)) w3.heap.size hF3.out.size #[] (by simp)
      simpa [Hid] using this
    clear hbb hd hdl hdec HZ HX' HY' hlen
    go_wp2_with (at_builtin; refine wpList_appBg (by rfl) (.tmp 48) (.tmp 49) rfl w3.heap.size 0 0 (some ⟨w3.heap.size + 1, 0, none⟩) [] rfl (by exact HO0.out) A1 n1 c1 (Hx.decode xs).1 rfl (by exact HRx'.out.alloc _) (by omega) (by exact hBs.out.size) ?_; intro A4 c4 w4 hown1 hg1 hat1; refine Hid.out ?_)
    refine Lib.hid ?_
    have hb4 : Hid (Below w3.heap.size w3 w4) := HO0.out.grows hBs.out hg1 (Nat.le_refl _) hBs.out.size
    have hb4' : Hid (Below (w3.heap.size + 1) (w3.alloc (.cells #[.bool f0, .bool f1, .int .u8 f2] 24)) w4) := by
      have h1 : Below (w3.heap.size + 1) (w3.alloc (.cells #[.bool f0, .bool f1, .int .u8 f2] 24)) ((w3.alloc (.cells #[.bool f0, .bool f1, .int .u8 f2] 24)).alloc (.cells #[] 5)) := (Below.refl _ _).alloc (by simp) _
      exact h1.grown hg1 (by simp) (fun k hk => by simp at hk; omega)
    simp only [Nat.zero_add, List.nil_append] at hown1 ⊢
    have HO1 := Lib.hid hown1
    have HRy4 : Hid (RB w4 A2 n2 (Hx.decode ys).1) := HRy'.out.keep (by have := hb4'.out.size; simpa using this) (fun p hp => hb4'.out.cell (by simpa using hp))
    have hblk : ∀ y, A4.map (·.block) = some y → w3.heap.size + 1 ≤ y := fun y hy => by
      rcases hat1 with e | e
      · rw [e] at hy; simp at hy; omega
      · rw [e] at hy; simp at hy; omega
    have HBk := Lib.hid hblk
    clear hown1 hg1 hat1 hblk
    go_wp2_with (at_builtin; refine wpList_appBg (by rfl) (.tmp 50) (.tmp 51) rfl w3.heap.size n1 c4 A4 (Hx.decode xs).1 rfl (by exact HO1.out) A2 n2 c2 (Hx.decode ys).1 rfl (by exact HRy4.out) (by omega) (by exact hb4.out.size) ?_; intro A5 c5 w5 hown2 hg2 hat2; refine Hid.out ?_)
    refine Lib.hid ?_
    have hb5 : Hid (Below w3.heap.size w3 w5) := HO1.out.grows hb4.out hg2 (Nat.le_refl _) hb4.out.size
    have hb5' : Hid (Below (w3.heap.size + 1) (w3.alloc (.cells #[.bool f0, .bool f1, .int .u8 f2] 24)) w5) := hb4'.out.grown hg2 (by have := hb4'.out.size; simpa using this) (fun k hk => HBk.out k hk)
    have HRz5 : Hid (RB w5 A3 n3 ((Hx.decode xs).1 ++ (Hx.decode ys).1)) := HRz'.out.keep (by have := hb5'.out.size; simpa using this) (fun p hp => hb5'.out.cell (by simpa using hp))
    have HRb := Lib.hid hown2.rb
    have m2 : w5.cell? ⟨w2.heap.size, 0, none⟩ = some (.bool f0) := (hb5'.out.cell (p := ⟨w2.heap.size, 0, none⟩) (by simp; omega)).trans k2
    have m3 : w5.cell? ⟨w3.heap.size, 0, none⟩ = some (.bool f0) := (hb5'.out.cell (p := ⟨w3.heap.size, 0, none⟩) (by simp)).trans k3
    clear hown2 hg2 hat2
    go_wp2_with (go_at_call 11; refine (same_any _ _ _ _ _ _ _ _ _ HRz5.out HRb.out).mono ?_; rintro e w6 ⟨rfl, rfl⟩)
    go_ret
    exact ⟨ret_true (by simp), HW3.out.trans (hb5.out.mono HW3.out.size)⟩

/-- What the walk gives, said of whatever the row reads. -/
theorem contract (H : Type) (enc : TypeId × Value → H) (W : World) (base : Nat) (args : Array Value) (ds gs : List (DataW H)) (before : List MemPlace)
    (hval : ∀ (j : Nat) t v, Tryd.f4.params[j]? = some t → args[j]? = some v → Value.okWide Tryd.prog W .any base t v)
    (hW : DataW.Whole enc Tryd.prog Tryd.f4.params.toList Rows.fnDecodeJoinSpec.vars false W args.toList ds gs before)
    (hsz : (DataW.weightsEach Tryd.prog (Tryd.f4.params.toList ++ Rows.fnDecodeJoinSpec.plain.varTypes Tryd.prog) (ds ++ gs)).all (· ≤ reachBytes) = true) (hE : ErrIs W) :
    Calls Tryd.prog 4 args W fun e W' => ∃ v, e = .returned v ∧ Rows.fnDecodeJoinSpec.post enc Tryd.prog Tryd.f4 false true false false W args v W' := by
  have hW' := hW
  obtain ⟨p, q, hA0, hV, rfl, _, _⟩ := hW
  have hA : DataW.TrodAll enc Tryd.prog W 0 (fun _ => true) true Tryd.f4.params.toList args.toList ds p := hA0
  clear hA0
  rw [Tryd.params4] at hA hval hsz
  obtain ⟨v0, vs0, d0, ds0, p0, q0, hargs, rfl, rfl, h0, r0⟩ := trodAll_cons hA
  obtain ⟨rfl, rfl, rfl⟩ := trodAll_nil r0
  obtain rfl : args = #[v0] := by cases args; simp_all
  obtain ⟨rfl, rfl⟩ := trodVars_none hV
  have k0 := h0
  have lt0 : ∀ x ∈ p0, x.block < W.heap.size := by obtain ⟨m, hm⟩ := k0; exact DataW.trod_lt m _ _ _ hm
  obtain ⟨A0, n0, c0, rfl⟩ := okWide_slice Tryd.underlying22 (hval 0 22 v0 rfl rfl)
  obtain ⟨l0, h0r, e0, g0, u0⟩ := argB h0 (weigh hsz (j := 0) rfl rfl)
  refine (walk A0 n0 c0 l0 W h0r e0 g0 hE).mono fun e W' ⟨he, bel⟩ => ?_
  subst he
  exact ⟨_, rfl, _, _, _, [], _, [], hW', trodAll_mk1 (shut_bool Tryd.underlying4 _), (trodAll_cons_mk (Below.trod laidOut (by kernel_rfl) (of_decide_eq_true (by kernel_rfl)) k0 bel lt0) trodAll_mk0), rfl, bel.frame _, fun h => by cases h⟩

theorem reads (os : Os) {H : Type} (enc : TypeId × Value → H) : ∃ places, DataW.whole enc Tryd.prog ((World.doorLaid Tryd.prog 400 os).forCall (fun _ _ => 0) ⟨#[], #[.slice none 0 0], []⟩).memory Tryd.f4.params.toList Rows.fnDecodeJoinSpec.vars false (#[.slice none 0 0] : Array Value).toList 8 = some ([.nil], [], places) :=
  ⟨[], by kernel_rfl⟩

set_option maxRecDepth 100000 in
theorem lifted (os : Os) (started : os.Started) (H : Type) (enc : TypeId × Value → H) (F : Stop.Interp) :
    ReturnsInHanded {} Tryd.checked os 4 .any ((OpenSpec.ofChange Rows.fnDecodeJoinSpec).preRow enc Tryd.prog Tryd.f4 Rows.fnDecodeJoinRow.domain false Rows.fnDecodeJoinRow.laid) (((OpenSpec.ofChange Rows.fnDecodeJoinSpec).at F).post enc Tryd.prog Tryd.f4 false true false false) := by
  obtain ⟨places, hx⟩ := reads os enc
  refine returnsInHanded_of_row (C := Tryd.checked) (s := OpenSpec.ofChange Rows.fnDecodeJoinSpec) own started (by kernel_rfl) Tryd.func4
    (witness_row_atRef (enc := enc) (C := Tryd.checked) false (World.doorLaid Tryd.prog 400 os) #[.slice none 0 0] rfl (by kernel_rfl) (by kernel_rfl) (by kernel_rfl)
      (OpenSpec.preRow_of_cond 8 hx (by kernel_rfl) (fun k hk => by cases hk) (by kernel_rfl) (door_met os _))) ?_
  intro W base args ds gs before hval hW _ _ hsz hL _ _
  exact contract H enc W base args ds gs before hval hW hsz (errIs_of hL)

theorem over : Rows.FnDecodeJoinSaid :=
  OpenClaim.holds_of_cond 4 Tryd.f4 rfl rfl rfl rfl rfl rfl rfl ⟨rfl, rfl, rfl, rfl, rfl⟩ rfl rfl rfl rfl rfl (by kernel_rfl) Tryd.func4 (by kernel_rfl)
    (of_decide_eq_true (by kernel_rfl)) (by unfold Func.isWrapper; first | (rw [if_pos (by decide +kernel)]; kernel_rfl) | (rw [if_neg (by decide +kernel)]; exact ⟨rfl, rfl⟩))
    (fun os started H enc _ F => by rw [OpenClaim.pre_eq_preRow]; exact lifted os started H enc F)

theorem plain (f : FuncId) (fn : Func) (hf : Tryd.pinned.checked.prog.funcNamed Rows.fnDecodeJoinRow.func = some f) (hfn : Tryd.pinned.checked.prog.funcs[f]? = some fn) :
    true = Tryd.pinned.checked.prog.looks [] ∧ ∀ (j : Nat) t, fn.params[j]? = some t → Tryd.pinned.checked.prog.wantsStandIn t = false := by
  obtain rfl : f = 4 := Option.some.inj ((show Tryd.prog.funcNamed Rows.fnDecodeJoinRow.func = some 4 by kernel_rfl).symm.trans hf) |>.symm
  obtain rfl : fn = Tryd.f4 := (Option.some.inj (Tryd.func4.symm.trans hfn)).symm
  refine ⟨by kernel_rfl, fun j t ht => ?_⟩
  rw [Tryd.params4] at ht
  have hm := Array.mem_of_getElem? ht
  simp at hm
  first
    | (subst hm; exact (show Tryd.prog.wantsStandIn _ = false by kernel_rfl))
    | (rcases hm with rfl | rfl <;> exact (show Tryd.prog.wantsStandIn _ = false by kernel_rfl))
    | (rcases hm with rfl | rfl | rfl <;> exact (show Tryd.prog.wantsStandIn _ = false by kernel_rfl))

theorem proved : Rows.FnDecodeJoinCardSaid :=
  Claim7.holds_tied_plain_at .later [] _ _ _ _ over (fun _ h => by cases h) (by kernel_rfl) (fun _ h => by cases h) fnDecodeJoin_row_tie rfl ⟨rfl, rfl⟩ (by kernel_rfl) rfl plain (by kernel_rfl)
end Go.Proofs.YtnplhpckjcmgmaaDoor.fnDecodeJoin
