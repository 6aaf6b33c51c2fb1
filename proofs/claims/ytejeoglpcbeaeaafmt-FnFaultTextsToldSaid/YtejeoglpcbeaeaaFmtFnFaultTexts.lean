/-
  FnFaultTexts: texts of errors of an odd length are all the same, and those of wrong bytes are as many as bytes that are no digits, for every argument that the form reaches; encoding/hex.ErrLength starts as the program lays it.
-/
import Derived.Test.YtejeoglpcbeaeaaFmtCommon
import Derived.Test.YtejeoglpcbeaeaaFmtFault
import Derived.Test.YtejeoglpcbeaeaaFmtDigit
import Derived.Test.YtejeoglpcbeaeaaFmtRegion
import Derived.Test.YtejeoglpcbeaeaaFmtLaid
import Derived.Test.YtejeoglpcbeaeaaFmtFault
import Derived.Stop.JoinedTold
import Derived.Stop.JoinedAt
import Derived.Deep.DeepWitnessRef
import Derived.SevenTiedAt
import Derived.ProofKit
namespace Go.Proofs.YtejeoglpcbeaeaaFmt.fnFaultTexts
open Go.ChangeShapes Go.WideShapes Go.ChangeAt Go.RowKit Go.Lib
open Go.ChangeMaps (open_string shut_string)
set_option linter.unusedVariables false

theorem faultIs (F : Go.Stop.Interp) (s : ByteArray) (w : World) (a : Addr) (hE : ErrAt w a) (hF : F.told.answers w.tape) (hbig : s.size ≤ 562949953421312) (T : ByteArray) (hT : T.data.toList = faultOf (Hx.decode s.data.toList).2) :
    Calls Tryf.prog 6 #[.string s] w fun e w' => e = .returned (.string T) ∧ Below w.heap.size w w' :=
  (faultText F s w a hE hF hbig).mono fun e w' ⟨t, he, ht, hb⟩ => ⟨by
    have : t = T := by
      cases t; cases T
      simp only at ht hT
      rw [← hT] at ht
      congr 1
      exact Array.toList_inj.1 ht
    rw [he, this], hb⟩
open Go.Extern.Stop Go.Stop Go.Extern
/-- What a text of '%#U' says of its number: its last two digits. -/
def back (l : List UInt8) : Nat := Hx.v (l.getD 4 0) * 16 + Hx.v (l.getD 5 0)
theorem back_is : ∀ u : Fin 256, back (FmtText.fmtUnicode { sharp := true } u.val) = u.val := by decide +kernel
theorem inner_inj (x y : UInt8) (h : innerText x.toNat = innerText y.toNat) : x = y := by
  unfold innerText at h
  have h2 := List.append_cancel_left h
  have e1 := back_is ⟨x.toNat, x.toNat_lt⟩
  have e2 := back_is ⟨y.toNat, y.toNat_lt⟩
  simp only [Int.toNat_natCast] at h2
  simp only at e1 e2
  rw [h2, e2] at e1
  exact UInt8.toNat_inj.1 e1.symm
theorem odd_end (l : List UInt8) : (Hx.decode (Hx.encode l ++ [48])).2 = .odd := by
  rw [Hex.decode_encode_append, Hx.decode_one, if_neg (by decide)]
theorem wrong1 (x : UInt8) (h : digB x = false) : (Hx.decode [x, 48]).2 = .bad x := by
  have h1 : 15 < Hx.v x := by unfold digB at h; simpa using h
  rw [Hex.decode_wrong _ _ h1]
theorem wrong2 (l : List UInt8) (y : UInt8) (h : digB y = false) : (Hx.decode (Hx.encode l ++ [48, y])).2 = .bad y := by
  have h1 : 15 < Hx.v y := by unfold digB at h; simpa using h
  rw [Hex.decode_encode_append, Hex.decode_wrong_second _ _ _ (by decide) h1]
theorem odd_ne (x : UInt8) : innerText x.toNat ≠ errText := by
  intro h
  have := congrArg (fun l => l.getD 14 0) h
  simp [innerText, errText] at this
theorem ofL (l : List UInt8) : (⟨l.toArray⟩ : ByteArray).toList = l := by rw [Go.ByteArray.toList_eq]
theorem conv_pair (c d : UInt8) (W : World) (b : Nat) (h : W.cell? ⟨b, 0, none⟩ = some (.int .u8 (c.toNat : Int))) (h' : W.cell? ⟨b, 1, none⟩ = some (.int .u8 (d.toNat : Int))) : (convert 22 9 (.slice (some ⟨b, 0, none⟩) 2 2)).run Tryf.prog W = .ok (.string ⟨#[c, d]⟩) W :=
  conv (l := [c, d]) ⟨rfl, fun _ => ⟨b, 0, rfl, World.block_lt_of_cell? W _ h, fun i e hi => by
    match i with
    | 0 => simp at hi; subst hi; exact h
    | 1 => simp at hi; subst hi; exact h'
    | i + 2 => simp at hi⟩⟩ 2
theorem app_list (s t : ByteArray) : (s ++ t).toList = s.toList ++ t.toList := by
  rw [Go.ByteArray.toList_eq, Go.ByteArray.toList_eq, Go.ByteArray.toList_eq]
  simp
theorem same_iff (x y : UInt8) (Tx Ty : ByteArray) (hx : Tx.data.toList = innerText x.toNat) (hy : Ty.data.toList = innerText y.toNat) : ((Tx.toList == Ty.toList) == ((x.toNat : Int) == (y.toNat : Int))) = true := by
  rw [Go.ByteArray.toList_eq, Go.ByteArray.toList_eq, hx, hy]
  by_cases h : x = y
  · subst h; simp
  · have h1 : (innerText x.toNat == innerText y.toNat) = false := beq_eq_false_iff_ne.2 fun e => h (inner_inj x y e)
    have h2 : ((x.toNat : Int) == (y.toNat : Int)) = false := beq_eq_false_iff_ne.2 fun e => h (UInt8.toNat_inj.1 (by omega))
    rw [h1, h2]
    rfl

set_option maxHeartbeats 1000000 in
set_option maxRecDepth 100000 in
theorem walk (A0 : Option Addr) (n0 c0 : Nat) (l0 : List UInt8) (A1 : Option Addr) (n1 c1 : Nat) (l1 : List UInt8) (x2 : UInt8) (x3 : UInt8) (w : World) (h0 : RB w A0 n0 l0) (e0 : n0 ≤ c0) (g0 : c0 ≤ 140737488351232) (h1 : RB w A1 n1 l1) (e1 : n1 ≤ c1) (g1 : c1 ≤ 140737488351232) (hE : ErrIs w) (F : Go.Stop.Interp) (hF : F.told.answers w.tape) :
    Calls Tryf.prog 4 #[.slice A0 n0 c0, .slice A1 n1 c1, .int .u8 (x2.toNat : Int), .int .u8 (x3.toNat : Int)] w fun e w' => e = .returned (.bool true) ∧ Below w.heap.size w w' := by
  obtain ⟨ea, hE⟩ := hE
  have HE := Lib.hid hE
  have HF := Lib.hid hF
  have HB0 := Lib.hid h0
  have HB1 := Lib.hid h1
  clear hE hF h0 h1
  obtain ⟨T0, hT0⟩ : ∃ T : ByteArray, T.data.toList = errText := ⟨⟨errText.toArray⟩, rfl⟩
  have HT0 := Lib.hid hT0
  clear hT0
  go_enter Tryf.func4, Tryf.ntmps4
  have hne : T0.toList.isEmpty = false := by rw [Go.ByteArray.toList_eq, HT0.out]; rfl
  have h48 : T0.data.toList = faultOf (Hx.decode (⟨#[48]⟩ : ByteArray).data.toList).2 := HT0.out
  have H48 := Lib.hid h48
  clear h48
  go_wp2_with fail
  refine (faultIs F _ _ ea HE.out HF.out (by decide) T0 H48.out).mono ?_
  rintro e w1 ⟨rfl, hb1⟩
  have hB1 := Lib.hid hb1
  go_wp2_with fail
  refine (encodeText _ _ _ l0 _ (HB0.out.below hB1.out) (by omega)).mono ?_
  rintro e w2 ⟨t, rfl, ht, hzt, hb2⟩
  have hB2 := Lib.hid (hB1.out.trans (hb2.mono hB1.out.size))
  have hzs : t.size ≤ 281474976710656 := by have := hzt.out; omega
  clear hb1 hb2
  have hsum : (t ++ (⟨#[48]⟩ : ByteArray)).size = t.size + 1 := by simp; rfl
  have hd2 : T0.data.toList = faultOf (Hx.decode (t ++ (⟨#[48]⟩ : ByteArray)).data.toList).2 := by
    rw [HT0.out, ← Go.ByteArray.toList_eq, app_list, ht.out, show (⟨#[48]⟩ : ByteArray).toList = [48] from ofL [48], odd_end]
    rfl
  have HD2 := Lib.hid hd2
  have HF2 : Hid (F.told.answers w2.tape) := by unfold Hid; rw [hB2.out.tape]; exact HF.out
  clear hd2
  go_wp2_with fail
  refine (faultIs F _ _ ea (HE.out.below hB2.out) HF2.out (by rw [hsum]; omega) T0 HD2.out).mono ?_
  rintro e w3 ⟨rfl, hb3⟩
  have hB3 := Lib.hid (hB2.out.trans (hb3.mono hB2.out.size))
  have HF3 : Hid (F.told.answers w3.tape) := by unfold Hid; rw [hB3.out.tape]; exact HF.out
  clear hb3
  go_wp2_with fail
  refine (faultIs F _ _ ea (HE.out.below hB3.out) HF3.out (by decide) T0 H48.out).mono ?_
  rintro e w4 ⟨rfl, hb4⟩
  have hB4 := Lib.hid (hB3.out.trans (hb4.mono hB3.out.size))
  have HF4 : Hid (F.told.answers w4.tape) := by unfold Hid; rw [hB4.out.tape]; exact HF.out
  clear hb4 hB1 hB2 hB3 HF2 HF3 hsum HD2 ht hzt hzs
  have hself : (T0.toList == T0.toList) = true := by simp
  go_wp2_with fail
  refine (digit_any x2 _).mono ?_
  rintro e w' ⟨rfl, rfl⟩
  cases hdx : digB x2 with
  | true =>
    clear hdx
    go_wp2_with fail
    go_ret
    exact ⟨ret_true (by simp), hB4.out⟩
  | false =>
    have HX := Lib.hid hdx
    clear hdx
    go_wp2_with fail
    refine (digit_any x3 _).mono ?_
    rintro e w' ⟨rfl, rfl⟩
    cases hdy : digB x3 with
    | true =>
      clear hdy
      go_wp2_with fail
      go_ret
      exact ⟨ret_true (by simp), hB4.out⟩
    | false =>
      have HY := Lib.hid hdy
      clear hdy
      obtain ⟨Tx, hTx⟩ : ∃ T : ByteArray, T.data.toList = innerText x2.toNat := ⟨⟨(innerText x2.toNat).toArray⟩, rfl⟩
      have HTx := Lib.hid hTx
      clear hTx
      have hcx := conv_pair x2 48
      have hdx : Tx.data.toList = faultOf (Hx.decode (⟨#[x2, 48]⟩ : ByteArray).data.toList).2 := by
        rw [show (⟨#[x2, 48]⟩ : ByteArray).data.toList = [x2, 48] from rfl, wrong1 x2 HX.out]
        exact HTx.out
      have HDx := Lib.hid hdx
      clear hdx
      go_wp2_with fail
      have hB4' := hB4.out.alloc hB4.out.size (.cells #[.int .u8 (x2.toNat : Int), .int .u8 48] 5)
      refine (faultIs F _ _ ea (HE.out.below hB4') (by exact HF4.out) (by show 2 ≤ _; decide) Tx HDx.out).mono ?_
      rintro e w5 ⟨rfl, hb5⟩
      have hB5 := Lib.hid (hB4'.trans (hb5.mono hB4'.size))
      have HF5 : Hid (F.told.answers w5.tape) := by unfold Hid; rw [hB5.out.tape]; exact HF.out
      have HE5 := Lib.hid (HE.out.below hB5.out)
      have HB5 := Lib.hid (HB1.out.below hB5.out)
      clear hb5 hB4' hcx HDx
      obtain ⟨Ty, hTy⟩ : ∃ T : ByteArray, T.data.toList = innerText x3.toNat := ⟨⟨(innerText x3.toNat).toArray⟩, rfl⟩
      have HTy := Lib.hid hTy
      clear hTy
      have hcy := conv_pair 48 x3
      have hsum : ∀ t : ByteArray, (t ++ (⟨#[48, x3]⟩ : ByteArray)).size = t.size + 2 := fun t => by simp; rfl
      have HS := Lib.hid hsum
      clear hsum
      go_wp2_with fail
      go_region_with (first
        | (go_at_call 7; refine (encodeText _ _ _ l1 _ (HB5.out.below (by repeat (first | exact Below.refl _ _ | assumption | refine Below.drew ?_ | refine below_up ?_))) (by omega)).mono ?_; rintro e w6 ⟨t2, rfl, ht2, hzt2, hbt⟩; have hBE : Below w5.heap.size w5 w6 := below_on (by repeat (first | exact Below.refl _ _ | assumption | refine Below.drew ?_ | refine below_up ?_)) hbt; obtain ⟨hcE, hfE⟩ := bcell hbt; have hszE := hbt.size; (try simp at hszE); have hxa := hcE w5.heap.size 0; (try simp [go_sem] at hxa); have hya := hcE w5.heap.size 1; (try simp [go_sem] at hya); have HF6 : Hid (F.told.answers w6.tape) := (by unfold Hid; rw [hBE.tape]; exact HF5.out); have hzs : t2.size ≤ 281474976710656 := (by have := hzt2.out; omega); have HDy : Hid (Ty.data.toList = faultOf (Hx.decode (t2 ++ (⟨#[48, x3]⟩ : ByteArray)).data.toList).2) := (by unfold Hid; rw [HTy.out, ← Go.ByteArray.toList_eq, app_list, ht2.out, show (⟨#[48, x3]⟩ : ByteArray).toList = [48, x3] from ofL [48, x3], wrong2 _ _ HY.out]; rfl))
        | (go_at_call 6; refine (faultIs F _ _ ea (HE5.out.below (by repeat (first | exact Below.refl _ _ | assumption | refine Below.drew ?_ | refine below_up ?_))) (by exact HF6.out) (by rw [HS.out]; omega) Ty HDy.out).mono ?_; rintro e w7 ⟨rfl, hb7⟩; have hB7 : Below w5.heap.size w5 w7 := below_on (by repeat (first | exact Below.refl _ _ | assumption | refine Below.drew ?_ | refine below_up ?_)) hb7))
      all_goals
        have hB8 := Lib.hid (hB5.out.trans (hB7.mono hB5.out.size))
        have HF8 : Hid (F.told.answers w7.tape) := by unfold Hid; rw [hB8.out.tape]; exact HF.out
        have hn2 : (Tx.toList == T0.toList) = false := by
          rw [Go.ByteArray.toList_eq, Go.ByteArray.toList_eq, HTx.out, HT0.out]
          exact beq_eq_false_iff_ne.2 (odd_ne _)
        go_wp2_with fail
        refine (faultIs F _ _ ea (HE.out.below hB8.out) HF8.out (by decide) T0 H48.out).mono ?_
        rintro e w9 ⟨rfl, hb9⟩
        have hB9 := Lib.hid (hB8.out.trans (hb9.mono hB8.out.size))
        clear hb9
        have hxy : ((Tx.toList == Ty.toList) == ((x2.toNat : Int) == (x3.toNat : Int))) = true := same_iff x2 x3 Tx Ty HTx.out HTy.out
        go_wp2_with fail
        go_ret
        exact ⟨ret_true (by simp), hB9.out⟩

/-- What the walk gives, said of whatever the row reads. -/
theorem contract (H : Type) (enc : TypeId × Value → H) (W : World) (base : Nat) (args : Array Value) (ds gs : List (DataW H)) (before : List MemPlace)
    (hval : ∀ (j : Nat) t v, Tryf.f4.params[j]? = some t → args[j]? = some v → Value.okWide Tryf.prog W .any base t v)
    (hW : DataW.Whole enc Tryf.prog Tryf.f4.params.toList Rows.fnFaultTextsSpec.vars false W args.toList ds gs before)
    (hsz : (DataW.weightsEach Tryf.prog (Tryf.f4.params.toList ++ Rows.fnFaultTextsSpec.plain.varTypes Tryf.prog) (ds ++ gs)).all (· ≤ reachBytes) = true) (hE : ErrIs W) (F : Go.Stop.Interp) (hF : F.told.answers W.tape) :
    Calls Tryf.prog 4 args W fun e W' => ∃ v, e = .returned v ∧ Rows.fnFaultTextsSpec.post enc Tryf.prog Tryf.f4 false true false false W args v W' := by
  have hW' := hW
  obtain ⟨p, q, hA0, hV, rfl, _, _⟩ := hW
  have hA : DataW.TrodAll enc Tryf.prog W 0 (fun _ => true) true Tryf.f4.params.toList args.toList ds p := hA0
  clear hA0
  rw [Tryf.params4] at hA hval hsz
  obtain ⟨v0, vs0, d0, ds0, p0, q0, hargs, rfl, rfl, h0, r0⟩ := trodAll_cons hA
  obtain ⟨v1, vs1, d1, ds1, p1, q1, rfl, rfl, rfl, h1, r1⟩ := trodAll_cons r0
  obtain ⟨v2, vs2, d2, ds2, p2, q2, rfl, rfl, rfl, h2, r2⟩ := trodAll_cons r1
  obtain ⟨v3, vs3, d3, ds3, p3, q3, rfl, rfl, rfl, h3, r3⟩ := trodAll_cons r2
  obtain ⟨rfl, rfl, rfl⟩ := trodAll_nil r3
  obtain rfl : args = #[v0, v1, v2, v3] := by cases args; simp_all
  obtain ⟨rfl, rfl⟩ := trodVars_none hV
  have k0 := h0
  have lt0 : ∀ x ∈ p0, x.block < W.heap.size := by obtain ⟨m, hm⟩ := k0; exact DataW.trod_lt m _ _ _ hm
  have k1 := h1
  have lt1 : ∀ x ∈ p1, x.block < W.heap.size := by obtain ⟨m, hm⟩ := k1; exact DataW.trod_lt m _ _ _ hm
  have k2 := h2
  have lt2 : ∀ x ∈ p2, x.block < W.heap.size := by obtain ⟨m, hm⟩ := k2; exact DataW.trod_lt m _ _ _ hm
  have k3 := h3
  have lt3 : ∀ x ∈ p3, x.block < W.heap.size := by obtain ⟨m, hm⟩ := k3; exact DataW.trod_lt m _ _ _ hm
  obtain ⟨A0, n0, c0, rfl⟩ := okWide_slice Tryf.underlying22 (hval 0 22 v0 rfl rfl)
  obtain ⟨l0, h0r, e0, g0, u0⟩ := argB h0 (weigh hsz (j := 0) rfl rfl)
  obtain ⟨A1, n1, c1, rfl⟩ := okWide_slice Tryf.underlying22 (hval 1 22 v1 rfl rfl)
  obtain ⟨l1, h1r, e1, g1, u1⟩ := argB h1 (weigh hsz (j := 1) rfl rfl)
  obtain ⟨y2, rfl, rfl, rfl, w2⟩ := open_int Tryf.underlying5 (hval 2 5 v2 rfl rfl) h2
  obtain ⟨x2, rfl⟩ := byte_of w2
  obtain ⟨y3, rfl, rfl, rfl, w3⟩ := open_int Tryf.underlying5 (hval 3 5 v3 rfl rfl) h3
  obtain ⟨x3, rfl⟩ := byte_of w3
  refine (walk A0 n0 c0 l0 A1 n1 c1 l1 x2 x3 W h0r e0 g0 h1r e1 g1 hE F hF).mono fun e W' ⟨he, bel⟩ => ?_
  subst he
  exact ⟨_, rfl, _, _, _, [], _, [], hW', trodAll_mk1 (shut_bool Tryf.underlying4 _), (trodAll_cons_mk (Below.trod laidOut (by kernel_rfl) (of_decide_eq_true (by kernel_rfl)) k0 bel lt0) (trodAll_cons_mk (Below.trod laidOut (by kernel_rfl) (of_decide_eq_true (by kernel_rfl)) k1 bel lt1) (trodAll_cons_mk (Below.trod laidOut (by kernel_rfl) (of_decide_eq_true (by kernel_rfl)) k2 bel lt2) (trodAll_cons_mk (Below.trod laidOut (by kernel_rfl) (of_decide_eq_true (by kernel_rfl)) k3 bel lt3) trodAll_mk0)))), rfl, bel.frame _, fun h => by cases h⟩

theorem reads (os : Os) {H : Type} (enc : TypeId × Value → H) : ∃ places, DataW.whole enc Tryf.prog ((World.doorLaid Tryf.prog 400 os).forCall (fun _ _ => 0) ⟨#[], #[.slice none 0 0, .slice none 0 0, .int .u8 0, .int .u8 0], []⟩).memory Tryf.f4.params.toList Rows.fnFaultTextsSpec.vars false (#[.slice none 0 0, .slice none 0 0, .int .u8 0, .int .u8 0] : Array Value).toList 8 = some ([.nil, .nil, .lit (.int .u8 0), .lit (.int .u8 0)], [], places) :=
  ⟨[], by kernel_rfl⟩

set_option maxRecDepth 100000 in
theorem lifted (os : Os) (started : os.Started) (H : Type) (enc : TypeId × Value → H) :
    ReturnsInTold none {} Tryf.checked os 4 .any Input.okWide ((OpenSpec.ofChange Rows.fnFaultTextsSpec).preRow enc Tryf.prog Tryf.f4 Rows.fnFaultTextsRow.domain false Rows.fnFaultTextsRow.laid) (fun F => ((OpenSpec.ofChange Rows.fnFaultTextsSpec).at F).post enc Tryf.prog Tryf.f4 false true false false) (aloneAtReturn Tryf.prog) nothingAlways := by
  obtain ⟨places, hx⟩ := reads os enc
  refine returnsInTold_of_row (C := Tryf.checked) (s := OpenSpec.ofChange Rows.fnFaultTextsSpec) (by kernel_rfl) own started (by kernel_rfl) Tryf.func4
    (OpenSpec.witness_stopped_atRef (enc := enc) (C := Tryf.checked) false (World.doorLaid Tryf.prog 400 os) #[.slice none 0 0, .slice none 0 0, .int .u8 0, .int .u8 0] rfl (by kernel_rfl) (by kernel_rfl) (by kernel_rfl)
      (OpenSpec.preRow_of_cond 8 hx (by kernel_rfl) (fun k hk => by cases hk) (by kernel_rfl) (door_met os _))) ?_
  intro F W base args ds gs before _ hF hval hW _ _ hsz hL _
  exact contract H enc W base args ds gs before hval hW hsz (errIs_of hL) F hF

theorem stopsOf : Tryf.pinned.checked.prog.stops = ["fmt.Sprintf"] := by kernel_rfl
theorem knobsOf : Tryf.pinned.checked.prog.stopKnobs = [] := by kernel_rfl
theorem quietOf (os : Os) : Stop.quiet Tryf.pinned.checked.prog os := by
  intro k hk
  rw [knobsOf] at hk
  cases hk

theorem proved : Rows.FnFaultTextsToldSaid :=
  Claim7.holds_of_told_tied_any_at .later 4 Tryf.f4 "fmt.Sprintf" [] [] _ _ _ _ _ (by kernel_rfl) rfl rfl rfl (by kernel_rfl) (by kernel_rfl) rfl ⟨rfl, rfl, rfl, rfl, rfl, rfl, rfl⟩ rfl rfl (by kernel_rfl) (by kernel_rfl) Tryf.func4 (by kernel_rfl)
    (of_decide_eq_true (by kernel_rfl)) (of_decide_eq_true (by kernel_rfl)) stopsOf.symm rfl knobsOf.symm (by kernel_rfl)
    (by kernel_rfl) (by kernel_rfl) (by kernel_rfl) (by kernel_rfl) (by kernel_rfl) (by kernel_rfl) (by kernel_rfl) (by kernel_rfl) (by kernel_rfl) rfl (by kernel_rfl) rfl rfl
    rfl rfl
    rfl (by kernel_rfl) (by kernel_rfl) (by kernel_rfl) (by decide) (by kernel_rfl) fnFaultTexts_row_tie
    (OpenClaim.moreEntering_of (by kernel_rfl) (by kernel_rfl) (by kernel_rfl) (by kernel_rfl) (by kernel_rfl) (by kernel_rfl) (by kernel_rfl) (by kernel_rfl) (by kernel_rfl) (by kernel_rfl))
    ⟨_, WideRow.started_initial, quietOf _⟩
    (fun os started _ H enc _ => lifted os started H enc)
end Go.Proofs.YtejeoglpcbeaeaaFmt.fnFaultTexts
