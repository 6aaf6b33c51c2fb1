/-
  FnDecodeWrongSecond: a byte that is no digit, in the second place of a pair of a text of even length with digits otherwise, is told, with all bytes ahead of the pair decoded, for every argument that the form reaches; encoding/hex.ErrLength starts as the program lays it.
-/
import Derived.Test.YtnplhpckjcmgmaaDoorCommon
import Derived.Test.YtnplhpckjcmgmaaDoorRegion
import Derived.Test.YtnplhpckjcmgmaaDoorDigits
import Derived.Test.YtnplhpckjcmgmaaDoorLaid
namespace Go.Proofs.YtnplhpckjcmgmaaDoor.fnDecodeWrongSecond
open Go.ChangeShapes Go.WideShapes Go.ChangeAt Go.RowKit Go.Lib
open Go.ChangeMaps (open_string shut_string)
set_option linter.unusedVariables false

def tab2 : ByteArray := { data := #[48, 49, 50, 51, 52, 53, 54, 55, 56, 57, 65, 66, 67, 68, 69, 70] }
theorem digit_of (x : Int) (h0 : 0 ≤ x) (h : (x % 16).toNat < tab2.size) : Hx.v (tab2[(x % 16).toNat]'h) ≤ 15 := by
  have : ∀ d : Fin 16, Hx.v (tab2[d.val]'d.isLt) ≤ 15 := by decide +kernel
  exact this ⟨(x % 16).toNat, h⟩
theorem two_list (c d : UInt8) : (⟨#[c, d]⟩ : ByteArray).toList = [c, d] := by rw [Go.ByteArray.toList_eq]
theorem conv_two (c e : UInt8) (W : World) (b : Nat) (h : W.cell? ⟨b, 0, none⟩ = some (.int .u8 (c.toNat : Int))) (h2 : W.cell? ⟨b, 1, none⟩ = some (.int .u8 (e.toNat : Int))) : (convert 22 9 (.slice (some ⟨b, 0, none⟩) 2 2)).run Tryd.prog W = .ok (.string ⟨#[c, e]⟩) W :=
  conv (l := [c, e]) ⟨rfl, fun _ => ⟨b, 0, rfl, World.block_lt_of_cell? W _ h, fun i d hi => by
    match i with
    | 0 => simp at hi; subst hi; exact h
    | 1 => simp at hi; subst hi; exact h2
    | i + 2 => simp at hi⟩⟩ 2
theorem wrong_end (l t : List UInt8) (a c : UInt8) (h1 : Hx.v a ≤ 15) (h : 15 < Hx.v c) : Hx.decode (Hx.encode l ++ [a, c] ++ t) = (l, .bad c) := by
  rw [List.append_assoc, Hex.decode_encode_append]
  simp only [List.cons_append, List.nil_append]
  rw [Hx.decode_two, if_neg (by omega), if_pos h]
  simp
theorem dig_no {c : UInt8} (h : digB c = false) : 15 < Hx.v c := by
  unfold digB at h
  simpa using h
theorem set3 {w : World} {A : Option Addr} {n : Nat} {l : List UInt8} (h : RB w A n l) (K : Nat) (x y z : Value) (hne : 0 < n → ∀ b o, A = some ⟨b, o, none⟩ → b ≠ K) : RB (((w.setCell ⟨K, 0, none⟩ x).setCell ⟨K, 1, none⟩ y).setCell ⟨K, 2, none⟩ z) A n l :=
  ⟨h.1, fun hn => by
    obtain ⟨b, o, e, hb, hc⟩ := h.2 hn
    have hk := hne hn b o e
    refine ⟨b, o, e, by simpa [World.setCell] using hb, fun i c hi => ?_⟩
    rw [World.cell?_setCell_other _ _ _ _ (by simp; try omega), World.cell?_setCell_other _ _ _ _ (by simp; try omega), World.cell?_setCell_other _ _ _ _ (by simp; try omega)]
    exact hc i c hi⟩
theorem below_set3 {B : Nat} {w0 w : World} (h : Below B w0 w) (K : Nat) (hK : B ≤ K) (x y z : Value) : Below B w0 (((w.setCell ⟨K, 0, none⟩ x).setCell ⟨K, 1, none⟩ y).setCell ⟨K, 2, none⟩ z) :=
  ((h.setCell (p := ⟨K, 0, none⟩) hK x).setCell (p := ⟨K, 1, none⟩) hK y).setCell (p := ⟨K, 2, none⟩) hK z

set_option maxHeartbeats 16000000 in
set_option maxRecDepth 100000 in
theorem walk (A0 : Option Addr) (n0 c0 : Nat) (l0 : List UInt8) (x1 : UInt8) (x2 : UInt8) (s3 : ByteArray) (w : World) (h0 : RB w A0 n0 l0) (e0 : n0 ≤ c0) (g0 : c0 ≤ 140737488351232) (g3 : s3.size ≤ 140737488351232) (hE : ErrIs w) :
    Calls Tryd.prog 8 #[.slice A0 n0 c0, .int .u8 (x1.toNat : Int), .int .u8 (x2.toNat : Int), .string s3] w fun e w' => e = .returned (.bool true) ∧ Below w.heap.size w w' := by
  obtain ⟨ea, hE⟩ := hE
  have HE := Lib.hid hE
  have HB0 := Lib.hid h0
  clear hE h0
  by_cases hd : digB x2 = true
  · go_enter Tryd.func8, Tryd.ntmps8
    go_wp2_with fail
    refine (digit_any x2 _).mono ?_
    rintro e w' ⟨rfl, rfl⟩
    rw [hd]
    clear hd
    go_wp2_with fail
    go_ret
    exact ⟨rfl, Below.refl _ _⟩
  replace hd : digB x2 = false := by simpa using hd
  by_cases hpar : s3.size % 2 = 1
  · have hpb : ((s3.size : Int) % 2 == 1) = true := by simp; omega
    go_enter Tryd.func8, Tryd.ntmps8
    go_wp2_with fail
    refine (digit_any x2 _).mono ?_
    rintro e w' ⟨rfl, rfl⟩
    rw [hd]
    clear hd
    go_wp2_with fail
    go_ret
    exact ⟨rfl, Below.refl _ _⟩
  have hpb : ((s3.size : Int) % 2 == 1) = false := by simp; omega
  by_cases hds : s3.toList.all digB = false
  · go_enter Tryd.func8, Tryd.ntmps8
    go_wp2_with fail
    refine (digit_any x2 _).mono ?_
    rintro e w' ⟨rfl, rfl⟩
    rw [hd]
    clear hd
    go_wp2_with fail
    refine (digits_any s3 _ (by omega)).mono ?_
    rintro e w' ⟨rfl, rfl⟩
    rw [hds]
    clear hds
    go_wp2_with fail
    go_ret
    exact ⟨rfl, Below.refl _ _⟩
  replace hds : s3.toList.all digB = true := by simpa using hds
  obtain ⟨x, hx⟩ : ∃ x : Int, x = (x1.toNat : Int) := ⟨_, rfl⟩
  rw [← hx]
  have hx0 : 0 ≤ x := by omega
  have hx1 : x < 256 := by have := x1.toNat_lt; omega
  clear hx
  have hlt : (x % 16).toNat < tab2.size := by show _ < 16; omega
  have hdig := Lib.hid (digit_of x hx0 hlt)
  have HV := Lib.hid (dig_no hd)
  go_enter Tryd.func8, Tryd.ntmps8
  go_wp2_with fail
  refine (digit_any x2 _).mono ?_
  rintro e w' ⟨rfl, rfl⟩
  rw [hd]
  clear hd
  go_wp2_with fail
  refine (digits_any s3 _ (by omega)).mono ?_
  rintro e w' ⟨rfl, rfl⟩
  rw [hds]
  clear hds
  go_wp2_with fail
  generalize hcc : (tab2[(x % 16).toNat]'hlt) = cc at hdig
  have hlt2 : (x % 16).toNat < ({ data := #[48, 49, 50, 51, 52, 53, 54, 55, 56, 57, 65, 66, 67, 68, 69, 70] } : ByteArray).size := hlt
  have hcc2 : (({ data := #[48, 49, 50, 51, 52, 53, 54, 55, 56, 57, 65, 66, 67, 68, 69, 70] } : ByteArray)[(x % 16).toNat]'hlt2) = cc := hcc
  rw [hcc2]
  clear hcc hcc2
  have hcv := conv_two cc x2
  have hsum : ∀ t : ByteArray, (t ++ (⟨#[cc, x2]⟩ : ByteArray)).size = t.size + 2 := fun t => by simp; rfl
  have hsum2 : ∀ t : ByteArray, (t ++ (⟨#[cc, x2]⟩ : ByteArray) ++ s3).size = t.size + 2 + s3.size := fun t => by rw [← hsum t]; simp
  have HS := Lib.hid hsum
  have HS2 := Lib.hid hsum2
  clear hsum hsum2 hpb hpar
  go_region_with (first
    | (go_at_call 10; refine (encodeText _ _ _ l0 _ (HB0.out.below (by repeat (first | exact Below.refl _ _ | assumption | refine Below.drew ?_ | refine below_up ?_))) (by omega)).mono ?_; rintro e w2 ⟨t, rfl, ht, hzt, hbt⟩; have hBE : Below w.heap.size w w2 := below_on (by repeat (first | exact Below.refl _ _ | assumption | refine Below.drew ?_ | refine below_up ?_)) hbt; obtain ⟨hcE, hfE⟩ := bcell hbt; have hszE := hbt.size; (try simp at hszE); (first | (have hszE1 : w.heap.size < w2.heap.size := (by omega)) | skip); (first | (have hszE2 : w.heap.size + 1 < w2.heap.size := (by omega)) | skip); have hxa := hcE w.heap.size 0; (try simp [go_sem] at hxa); have hxb := hcE (w.heap.size + 1) 0; (try simp [go_sem] at hxb); have hya := hcE w.heap.size 1; (try simp [go_sem] at hya); have hyb := hcE (w.heap.size + 1) 1; (try simp [go_sem] at hyb); have hzs : t.size ≤ 281474976710656 := (by have := hzt.out; omega); have hzs2 : (t ++ (⟨#[cc, x2]⟩ : ByteArray)).size + s3.size ≤ 9223372036854775807 := (by rw [HS.out]; omega))
    | (go_at_call 9; refine (decTextA _ _ ea (HE.out.below (by repeat (first | exact Below.refl _ _ | assumption | refine Below.drew ?_ | refine below_up ?_))) (by rw [HS2.out]; have := hzt.out; omega)).mono ?_; rintro e w3 ⟨A, n, c, b0, b1, b2, rfl, hr, hn, hc1, hc2, hn2, hb0, hb1, hbb2, hbw, hA⟩; have hBF : Below w.heap.size w w3 := below_on (by repeat (first | exact Below.refl _ _ | assumption | refine Below.drew ?_ | refine below_up ?_)) hbw; obtain ⟨hcF, hfF⟩ := bcell hbw; have hszF := hbw.size; (try simp only [World.size_alloc] at hszF)))
  all_goals
    have hdec := Lib.hid (show Hx.decode (t ++ (⟨#[cc, x2]⟩ : ByteArray) ++ s3).toList = (l0, .bad x2) by rw [app_list, app_list, ht.out, two_list, wrong_end _ _ _ _ hdig.out HV.out])
    rw [hdec.out] at hr hb0 hb1 hbb2
    obtain rfl : b0 = true := hb0.out
    obtain rfl : b1 = true := hb1.out
    obtain rfl : b2 = (x2.toNat : Int) := hbb2.out
    have hG : Below w2.heap.size w2 w3 := below_on (by repeat (first | exact Below.refl _ _ | assumption | refine Below.drew ?_ | refine below_up ?_)) hbw
    have hsE := hBE.size
    (try (have qa0 := (hG.cell (p := ⟨w.heap.size, 0, none⟩) (by show w.heap.size < w2.heap.size; omega)).trans (hbt.cell (p := ⟨w.heap.size, 0, none⟩) (by show w.heap.size < _; first | (simp; done) | (simp; omega))); simp [go_sem] at qa0))
    (try (have qb0 := (hG.cell (p := ⟨w.heap.size + 1, 0, none⟩) (by show w.heap.size + 1 < w2.heap.size; omega)).trans (hbt.cell (p := ⟨w.heap.size + 1, 0, none⟩) (by show w.heap.size + 1 < _; first | (simp; done) | (simp; omega))); simp [go_sem] at qb0))
    (try (have ra0 := hcF w2.heap.size 0 (by first | (simp; done) | (simp; omega)); simp [go_sem] at ra0))
    (try (have qa1 := (hG.cell (p := ⟨w.heap.size, 1, none⟩) (by show w.heap.size < w2.heap.size; omega)).trans (hbt.cell (p := ⟨w.heap.size, 1, none⟩) (by show w.heap.size < _; first | (simp; done) | (simp; omega))); simp [go_sem] at qa1))
    (try (have qb1 := (hG.cell (p := ⟨w.heap.size + 1, 1, none⟩) (by show w.heap.size + 1 < w2.heap.size; omega)).trans (hbt.cell (p := ⟨w.heap.size + 1, 1, none⟩) (by show w.heap.size + 1 < _; first | (simp; done) | (simp; omega))); simp [go_sem] at qb1))
    (try (have ra1 := hcF w2.heap.size 1 (by first | (simp; done) | (simp; omega)); simp [go_sem] at ra1))
    (try (have qa2 := (hG.cell (p := ⟨w.heap.size, 2, none⟩) (by show w.heap.size < w2.heap.size; omega)).trans (hbt.cell (p := ⟨w.heap.size, 2, none⟩) (by show w.heap.size < _; first | (simp; done) | (simp; omega))); simp [go_sem] at qa2))
    (try (have qb2 := (hG.cell (p := ⟨w.heap.size + 1, 2, none⟩) (by show w.heap.size + 1 < w2.heap.size; omega)).trans (hbt.cell (p := ⟨w.heap.size + 1, 2, none⟩) (by show w.heap.size + 1 < _; first | (simp; done) | (simp; omega))); simp [go_sem] at qb2))
    (try (have ra2 := hcF w2.heap.size 2 (by first | (simp; done) | (simp; omega)); simp [go_sem] at ra2))
    (try (have ua0 := hbt.cell (p := ⟨w.heap.size, 0, none⟩) (by show w.heap.size < _; first | (simp; done) | (simp; omega)); simp [go_sem] at ua0))
    (try (have ub0 := hbt.cell (p := ⟨w.heap.size + 1, 0, none⟩) (by show w.heap.size + 1 < _; first | (simp; done) | (simp; omega)); simp [go_sem] at ub0))
    (try (have ua1 := hbt.cell (p := ⟨w.heap.size, 1, none⟩) (by show w.heap.size < _; first | (simp; done) | (simp; omega)); simp [go_sem] at ua1))
    (try (have ub1 := hbt.cell (p := ⟨w.heap.size + 1, 1, none⟩) (by show w.heap.size + 1 < _; first | (simp; done) | (simp; omega)); simp [go_sem] at ub1))
    (try (have ua2 := hbt.cell (p := ⟨w.heap.size, 2, none⟩) (by show w.heap.size < _; first | (simp; done) | (simp; omega)); simp [go_sem] at ua2))
    (try (have ub2 := hbt.cell (p := ⟨w.heap.size + 1, 2, none⟩) (by show w.heap.size + 1 < _; first | (simp; done) | (simp; omega)); simp [go_sem] at ub2))
    go_wp2_with (go_at_call 11; refine (same_any _ _ _ l0 _ _ _ l0 _ ?_ ?_).mono ?_)
  all_goals first
    | exact hr.out.alloc _
    | exact (HB0.out.below hBF).alloc _
    | (refine set3 hr.out _ _ _ _ ?_; intro hn b o e; have h1 := (hA.out b o e).1; (try simp at h1); omega)
    | (refine set3 (HB0.out.below hBF) _ _ _ _ ?_; intro hn b o e; have h2 := hBE.size; obtain ⟨b', o', e', hb', _⟩ := HB0.out.2 hn; rw [e] at e'; injection e' with e'; injection e' with e1; omega)
    | (go_ret; exact ⟨ret_true (by simp), hBF.alloc hBF.size _⟩)
    | (go_ret; refine ⟨ret_true (by simp), below_set3 hBF _ ?_ _ _ _⟩; have h2 := hBE.size; omega)
    | (rintro e w4 ⟨rfl, rfl⟩; (try go_wp2_with fail); go_ret; first
        | exact ⟨ret_true (by simp), hBF.alloc hBF.size _⟩
        | (refine ⟨ret_true (by simp), below_set3 hBF _ ?_ _ _ _⟩; have h2 := hBE.size; omega))

/-- What the walk gives, said of whatever the row reads. -/
theorem contract (H : Type) (enc : TypeId × Value → H) (W : World) (base : Nat) (args : Array Value) (ds gs : List (DataW H)) (before : List MemPlace)
    (hval : ∀ (j : Nat) t v, Tryd.f8.params[j]? = some t → args[j]? = some v → Value.okWide Tryd.prog W .any base t v)
    (hW : DataW.Whole enc Tryd.prog Tryd.f8.params.toList Rows.fnDecodeWrongSecondSpec.vars false W args.toList ds gs before)
    (hsz : (DataW.weightsEach Tryd.prog (Tryd.f8.params.toList ++ Rows.fnDecodeWrongSecondSpec.plain.varTypes Tryd.prog) (ds ++ gs)).all (· ≤ reachBytes) = true) (hE : ErrIs W) :
    Calls Tryd.prog 8 args W fun e W' => ∃ v, e = .returned v ∧ Rows.fnDecodeWrongSecondSpec.post enc Tryd.prog Tryd.f8 false true false false W args v W' := by
  have hW' := hW
  obtain ⟨p, q, hA0, hV, rfl, _, _⟩ := hW
  have hA : DataW.TrodAll enc Tryd.prog W 0 (fun _ => true) true Tryd.f8.params.toList args.toList ds p := hA0
  clear hA0
  rw [Tryd.params8] at hA hval hsz
  obtain ⟨v0, vs0, d0, ds0, p0, q0, hargs, rfl, rfl, h0, r0⟩ := trodAll_cons hA
  obtain ⟨v1, vs1, d1, ds1, p1, q1, rfl, rfl, rfl, h1, r1⟩ := trodAll_cons r0
  obtain ⟨v2, vs2, d2, ds2, p2, q2, rfl, rfl, rfl, h2, r2⟩ := trodAll_cons r1
  obtain ⟨v3, vs3, d3, ds3, p3, q3, rfl, rfl, rfl, h3, r3⟩ := trodAll_cons r2
  obtain ⟨rfl, rfl, rfl⟩ := trodAll_nil r3
  obtain rfl : args = #[v0, v1, v2, v3] := by cases args; simp_all
  obtain ⟨rfl, rfl⟩ := trodVars_none hV
  have k0 := h0
  have lt0 : ∀ x ∈ p0, x.block < W.heap.size := by obtain ⟨m, hm⟩ := k0; exact DataW.trod_lt m _ _ _ hm
  have k1 := h1
  have lt1 : ∀ x ∈ p1, x.block < W.heap.size := by obtain ⟨m, hm⟩ := k1; exact DataW.trod_lt m _ _ _ hm
  have k2 := h2
  have lt2 : ∀ x ∈ p2, x.block < W.heap.size := by obtain ⟨m, hm⟩ := k2; exact DataW.trod_lt m _ _ _ hm
  have k3 := h3
  have lt3 : ∀ x ∈ p3, x.block < W.heap.size := by obtain ⟨m, hm⟩ := k3; exact DataW.trod_lt m _ _ _ hm
  obtain ⟨A0, n0, c0, rfl⟩ := okWide_slice Tryd.underlying22 (hval 0 22 v0 rfl rfl)
  obtain ⟨l0, h0r, e0, g0, u0⟩ := argB h0 (weigh hsz (j := 0) rfl rfl)
  obtain ⟨y1, rfl, rfl, rfl, w1⟩ := open_int Tryd.underlying5 (hval 1 5 v1 rfl rfl) h1
  obtain ⟨x1, rfl⟩ := byte_of w1
  obtain ⟨y2, rfl, rfl, rfl, w2⟩ := open_int Tryd.underlying5 (hval 2 5 v2 rfl rfl) h2
  obtain ⟨x2, rfl⟩ := byte_of w2
  obtain ⟨s3, rfl, rfl, rfl, w3⟩ := open_string Tryd.underlying9 (hval 3 9 v3 rfl rfl) h3
  obtain ⟨g3, u3⟩ := argS (H := H) (weigh hsz (j := 3) rfl rfl)
  refine (walk A0 n0 c0 l0 x1 x2 s3 W h0r e0 g0 g3 hE).mono fun e W' ⟨he, bel⟩ => ?_
  subst he
  exact ⟨_, rfl, _, _, _, [], _, [], hW', trodAll_mk1 (shut_bool Tryd.underlying4 _), (trodAll_cons_mk (Below.trod laidOut (by kernel_rfl) (of_decide_eq_true (by kernel_rfl)) k0 bel lt0) (trodAll_cons_mk (Below.trod laidOut (by kernel_rfl) (of_decide_eq_true (by kernel_rfl)) k1 bel lt1) (trodAll_cons_mk (Below.trod laidOut (by kernel_rfl) (of_decide_eq_true (by kernel_rfl)) k2 bel lt2) (trodAll_cons_mk (Below.trod laidOut (by kernel_rfl) (of_decide_eq_true (by kernel_rfl)) k3 bel lt3) trodAll_mk0)))), rfl, bel.frame _, fun h => by cases h⟩

theorem reads (os : Os) {H : Type} (enc : TypeId × Value → H) : ∃ places, DataW.whole enc Tryd.prog ((World.doorLaid Tryd.prog 400 os).forCall (fun _ _ => 0) ⟨#[], #[.slice none 0 0, .int .u8 0, .int .u8 0, .string ⟨#[]⟩], []⟩).memory Tryd.f8.params.toList Rows.fnDecodeWrongSecondSpec.vars false (#[.slice none 0 0, .int .u8 0, .int .u8 0, .string ⟨#[]⟩] : Array Value).toList 8 = some ([.nil, .lit (.int .u8 0), .lit (.int .u8 0), .lit (.string [])], [], places) :=
  ⟨[], by kernel_rfl⟩

set_option maxRecDepth 100000 in
theorem lifted (os : Os) (started : os.Started) (H : Type) (enc : TypeId × Value → H) (F : Stop.Interp) :
    ReturnsInHanded {} Tryd.checked os 8 .any ((OpenSpec.ofChange Rows.fnDecodeWrongSecondSpec).preRow enc Tryd.prog Tryd.f8 Rows.fnDecodeWrongSecondRow.domain false Rows.fnDecodeWrongSecondRow.laid) (((OpenSpec.ofChange Rows.fnDecodeWrongSecondSpec).at F).post enc Tryd.prog Tryd.f8 false true false false) := by
  obtain ⟨places, hx⟩ := reads os enc
  refine returnsInHanded_of_row (C := Tryd.checked) (s := OpenSpec.ofChange Rows.fnDecodeWrongSecondSpec) own started (by kernel_rfl) Tryd.func8
    (witness_row_atRef (enc := enc) (C := Tryd.checked) false (World.doorLaid Tryd.prog 400 os) #[.slice none 0 0, .int .u8 0, .int .u8 0, .string ⟨#[]⟩] rfl (by kernel_rfl) (by kernel_rfl) (by kernel_rfl)
      (OpenSpec.preRow_of_cond 8 hx (by kernel_rfl) (fun k hk => by cases hk) (by kernel_rfl) (door_met os _))) ?_
  intro W base args ds gs before hval hW _ _ hsz hL _ _
  exact contract H enc W base args ds gs before hval hW hsz (errIs_of hL)

theorem over : Rows.FnDecodeWrongSecondSaid :=
  OpenClaim.holds_of_cond 8 Tryd.f8 rfl rfl rfl rfl rfl rfl rfl ⟨rfl, rfl, rfl, rfl, rfl⟩ rfl rfl rfl rfl rfl (by kernel_rfl) Tryd.func8 (by kernel_rfl)
    (of_decide_eq_true (by kernel_rfl)) (by unfold Func.isWrapper; first | (rw [if_pos (by decide +kernel)]; kernel_rfl) | (rw [if_neg (by decide +kernel)]; exact ⟨rfl, rfl⟩))
    (fun os started H enc _ F => by rw [OpenClaim.pre_eq_preRow]; exact lifted os started H enc F)

theorem plain (f : FuncId) (fn : Func) (hf : Tryd.pinned.checked.prog.funcNamed Rows.fnDecodeWrongSecondRow.func = some f) (hfn : Tryd.pinned.checked.prog.funcs[f]? = some fn) :
    true = Tryd.pinned.checked.prog.looks [] ∧ ∀ (j : Nat) t, fn.params[j]? = some t → Tryd.pinned.checked.prog.wantsStandIn t = false := by
  obtain rfl : f = 8 := Option.some.inj ((show Tryd.prog.funcNamed Rows.fnDecodeWrongSecondRow.func = some 8 by kernel_rfl).symm.trans hf) |>.symm
  obtain rfl : fn = Tryd.f8 := (Option.some.inj (Tryd.func8.symm.trans hfn)).symm
  refine ⟨by kernel_rfl, fun j t ht => ?_⟩
  rw [Tryd.params8] at ht
  have hm := Array.mem_of_getElem? ht
  simp at hm
  first
    | (subst hm; exact (show Tryd.prog.wantsStandIn _ = false by kernel_rfl))
    | (rcases hm with rfl | rfl <;> exact (show Tryd.prog.wantsStandIn _ = false by kernel_rfl))
    | (rcases hm with rfl | rfl | rfl <;> exact (show Tryd.prog.wantsStandIn _ = false by kernel_rfl))
    | (rcases hm with rfl | rfl | rfl | rfl <;> exact (show Tryd.prog.wantsStandIn _ = false by kernel_rfl))

theorem proved : Rows.FnDecodeWrongSecondCardSaid :=
  Claim7.holds_tied_plain_at .later [] _ _ _ _ over (fun _ h => by cases h) (by kernel_rfl) (fun _ h => by cases h) fnDecodeWrongSecond_row_tie rfl ⟨rfl, rfl⟩ (by kernel_rfl) rfl plain (by kernel_rfl)
end Go.Proofs.YtnplhpckjcmgmaaDoor.fnDecodeWrongSecond
