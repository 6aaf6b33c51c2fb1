/-
  FnDecodeRoads: Decode into a buffer with room, AppendDecode and DecodeString agree, with the same fault, for every argument that the form reaches; encoding/hex.ErrLength starts as the program lays it.
-/
import Derived.Test.YtgkpekdgdiphdaaDoorCommon
import Derived.Test.YtgkpekdgdiphdaaDoorDigit
import Derived.Test.YtgkpekdgdiphdaaDoorAppDec
import Derived.Test.YtgkpekdgdiphdaaDoorZeros
import Derived.Test.YtgkpekdgdiphdaaDoorLaid
namespace Go.Proofs.YtgkpekdgdiphdaaDoor.fnDecodeRoads
open Go.ChangeShapes Go.WideShapes Go.ChangeAt Go.RowKit Go.Lib
open Go.ChangeMaps (open_string shut_string)
set_option linter.unusedVariables false

theorem same_yes (A : Option Addr) (n c : Nat) (l : List UInt8) (B : Option Addr) (m d : Nat) (w : World) (h : RB w A n l) (h' : RB w B m l) :
    Calls Tryd.prog 9 #[.slice A n c, .slice B m d] w fun e w' => e = .returned (.bool true) ∧ w = w' :=
  (same_any A n c l B m d l w h h').mono fun e w' ⟨he, hw⟩ => ⟨by rw [he]; simp, hw⟩

theorem implDecodeK (m : Nat) (D : Option Addr) (nd cd : Nat) (ld : List UInt8) (A : Option Addr) (n c : Nat) (l : List UInt8) (w : World) (a : Addr) (hm : (Hx.decode l).1.length = m) (hD : RB w D nd ld) (h : RB w A n l) (hroom : n / 2 ≤ nd) (hbig : nd ≤ 211106232532992) (hbig2 : n ≤ 4611686018427387903) (hE : ErrAt w a) :
    Calls Tryd.prog 13 #[.slice D nd cd, .slice A n c] w fun e w' => ∃ A' c' b0 b1 b2, e = .returned (.tuple #[.slice A' nd c', .int .i64 (m : Int), .agg #[.bool b0, .bool b1, .int .u8 b2]]) ∧ nd ≤ c' ∧ c' ≤ 9223372036854775807 ∧
      Hid (RB w' A' m (Hx.decode l).1) ∧ m ≤ nd ∧ Hid (b0 = Hex.bad (Hx.decode l).2) ∧ Hid (b1 = Hex.wrong (Hx.decode l).2) ∧ Hid (b2 = ((Hex.byteOf (Hx.decode l).2).toNat : Int)) ∧ Below w.heap.size w w' := by
  refine (implDecode D nd cd ld A n c l w a hD h hroom hbig hbig2 hE).mono ?_
  rintro e w' ⟨A', c', b0, b1, b2, rfl, h1, h2, h3, h4, h5, h6, h7, h8⟩
  have h3' := h3.out.to_ (k := (Hx.decode l).1.length) (by have := h4.out; omega)
  rw [List.take_left' rfl] at h3'
  have h4' := h4.out
  rw [hm] at h3' h4'
  exact ⟨A', c', b0, b1, b2, by rw [hm], h1, h2, h3', by omega, h5, h6, h7, h8⟩

set_option maxHeartbeats 1000000 in
set_option maxRecDepth 100000 in
theorem walk (A0 : Option Addr) (n0 c0 : Nat) (l0 : List UInt8) (s1 : ByteArray) (w : World) (h0 : RB w A0 n0 l0) (e0 : n0 ≤ c0) (g0 : c0 ≤ 140737488351232) (g1 : s1.size ≤ 140737488351232) (hE : ErrIs w) :
    Calls Tryd.prog 6 #[.slice A0 n0 c0, .string s1] w fun e w' => e = .returned (.bool true) ∧ Below w.heap.size w w' := by
  obtain ⟨ea, hE⟩ := hE
  have HE := Lib.hid hE
  have HB0 := Lib.hid h0
  clear hE h0
  obtain ⟨k, hk0⟩ : ∃ k : Nat, k = s1.size / 2 := ⟨_, rfl⟩
  obtain ⟨M, hM0⟩ : ∃ M : Nat, n0 + k = M := ⟨_, rfl⟩
  have HK : Hid (((s1.size : Int) / 2) = (k : Int)) := by unfold Hid; omega
  have HKn := Lib.hid hk0
  have HM := Lib.hid hM0
  have HMb := Lib.hid (show M ≤ 211106232532992 by omega)
  clear hk0 hM0
  go_enter Tryd.func6, Tryd.ntmps6
  go_wp2_with fail
  refine (decText s1 _ ea HE.out (by omega)).mono ?_
  rintro e w1 ⟨A, n, c, b0, b1, b2, rfl, hr, hn, hc1, hc2, hn2, hb0, hb1, hbb2, hbw, hE1⟩
  have hB := Lib.hid (hbw.alloc hbw.size (.cells #[.bool b0, .bool b1, .int .u8 b2] 24))
  have HR := Lib.hid (hr.out.alloc (.cells #[.bool b0, .bool b1, .int .u8 b2] 24))
  have HC0 : Hid ((w1.alloc (.cells #[.bool b0, .bool b1, .int .u8 b2] 24)).cell? ⟨w1.heap.size, 0, none⟩ = some (.bool b0)) := by unfold Hid; simp [go_sem]
  have HC1 : Hid ((w1.alloc (.cells #[.bool b0, .bool b1, .int .u8 b2] 24)).cell? ⟨w1.heap.size, 1, none⟩ = some (.bool b1)) := by unfold Hid; simp [go_sem]
  have HC2 : Hid ((w1.alloc (.cells #[.bool b0, .bool b1, .int .u8 b2] 24)).cell? ⟨w1.heap.size, 2, none⟩ = some (.int .u8 b2)) := by unfold Hid; simp [go_sem]
  have HT := Lib.hid ((HB0.out.below hbw).alloc (.cells #[.bool b0, .bool b1, .int .u8 b2] 24))
  have HE2 := Lib.hid (hE1.out.below ((Below.refl _ w1).alloc (Nat.le_refl _) (.cells #[.bool b0, .bool b1, .int .u8 b2] 24)))
  clear hbw
  have hcv := fun W => Lib.run_convert_string_bytes (P := Tryd.prog) W 9 22 5 s1 Tryd.underlying9 Tryd.underlying22 Tryd.underlying5
  go_wp2_with fail
  generalize hW : w1.alloc (.cells #[.bool b0, .bool b1, .int .u8 b2] 24) = W1 at hB HR HC0 HC1 HC2 HT HE2 ⊢
  have hsE : W1.heap.size = w1.heap.size + 1 := by rw [← hW]; simp
  have hsz1 : Hid (w1.heap.size < W1.heap.size) := by unfold Hid; omega
  clear hW
  have hbt := Lib.hid (below_bytesWorld W1 s1)
  have hrt0 := RB.ofText W1 s1
  rw [hsE] at hrt0
  have hrt := Lib.hid hrt0
  clear hrt0 hsE
  refine (implAppendDecode _ _ _ l0 _ _ _ _ _ ea (HT.out.below hbt.out) hrt.out (by omega) (by omega) (HE2.out.below hbt.out)).mono ?_
  rintro e w2 ⟨A2, N, c2, d0, d1, d2, rfl, hN, hN1, hN2, hR2, hd2, gb0, gb1, gb2, gbw⟩
  obtain rfl : d0 = b0 := by rw [gb0.out, hb0.out, Go.ByteArray.toList_eq]
  obtain rfl : d1 = b1 := by rw [gb1.out, hb1.out, Go.ByteArray.toList_eq]
  obtain rfl : d2 = b2 := by rw [gb2.out, hbb2.out, Go.ByteArray.toList_eq]
  have hb2 : Below W1.heap.size W1 w2 := hbt.out.trans (gbw.mono hbt.out.size)
  have hsz2 : w1.heap.size < w2.heap.size := by have := hb2.size; have := hsz1.out; omega
  have K0 := Lib.hid ((hb2.cell (p := ⟨w1.heap.size, 0, none⟩) hsz1.out).trans HC0.out)
  have K1 := Lib.hid ((hb2.cell (p := ⟨w1.heap.size, 1, none⟩) hsz1.out).trans HC1.out)
  have K2 := Lib.hid ((hb2.cell (p := ⟨w1.heap.size, 2, none⟩) hsz1.out).trans HC2.out)
  have G0 := Lib.hid (HT.out.below hb2)
  have GA := Lib.hid (HR.out.below hb2)
  have GE := Lib.hid (HE2.out.below hb2)
  have hB2 := Lib.hid (hB.out.trans (hb2.mono hB.out.size))
  rw [← Go.ByteArray.toList_eq] at hR2
  clear hb2 gbw
  have hBs : Hid (Below (w2.alloc (.cells #[.bool d0, .bool d1, .int .u8 d2] 24)).heap.size (w2.alloc (.cells #[.bool d0, .bool d1, .int .u8 d2] 24)) ((w2.alloc (.cells #[.bool d0, .bool d1, .int .u8 d2] 24)).alloc (.cells #[] 5))) := (Below.refl _ _).alloc (Nat.le_refl _) _
  have HO0 : Hid (OB ((w2.alloc (.cells #[.bool d0, .bool d1, .int .u8 d2] 24)).alloc (.cells #[] 5)) (w2.alloc (.cells #[.bool d0, .bool d1, .int .u8 d2] 24)).heap.size (some ⟨w2.heap.size + 1, 0, none⟩) 0 0 []) := by
    have := OB.made (w2.alloc (.cells #[.bool d0, .bool d1, .int .u8 d2] 24)) _ (Nat.le_refl _) #[] (by simp)
    simpa [Hid] using this
  go_wp2_with (at_builtin; refine wpList_appB rfl (.tmp 26) (.tmp 27) rfl (w2.alloc (.cells #[.bool d0, .bool d1, .int .u8 d2] 24)).heap.size 0 0 (some ⟨w2.heap.size + 1, 0, none⟩) [] rfl (by exact HO0.out) A0 n0 c0 l0 rfl (by exact (G0.out.alloc _).below hBs.out) (by omega) (by exact hBs.out.size) ?_; intro A4 c4 w4 hown1 hg1 hat1; refine Hid.out ?_)
  refine Lib.hid ?_
  have hb4 : Hid (Below (w2.alloc (.cells #[.bool d0, .bool d1, .int .u8 d2] 24)).heap.size (w2.alloc (.cells #[.bool d0, .bool d1, .int .u8 d2] 24)) w4) := HO0.out.grows hBs.out hg1 (Nat.le_refl _) hBs.out.size
  simp only [Nat.zero_add, List.nil_append] at hown1 ⊢
  have HO1 := Lib.hid hown1
  clear hown1 hg1 hat1
  go_wp2_with (at_builtin; refine wpList_appB rfl (.tmp 28) (.tmp 29) rfl (w2.alloc (.cells #[.bool d0, .bool d1, .int .u8 d2] 24)).heap.size n0 c4 A4 l0 rfl (by exact HO1.out) A n c (Hx.decode s1.toList).1 rfl (by exact (GA.out.alloc _).below hb4.out) (by omega) (by exact hb4.out.size) ?_; intro A5 c5 w5 hown2 hg2 hat2; refine Hid.out ?_)
  refine Lib.hid ?_
  have hb5 : Hid (Below (w2.alloc (.cells #[.bool d0, .bool d1, .int .u8 d2] 24)).heap.size (w2.alloc (.cells #[.bool d0, .bool d1, .int .u8 d2] 24)) w5) := HO1.out.grows hb4.out hg2 (Nat.le_refl _) hb4.out.size
  have HQ := Lib.hid hown2.rb
  have HP := Lib.hid ((hR2.out.alloc _).below hb5.out)
  clear hown2 hg2 hat2
  have hsz5 : w2.heap.size < w5.heap.size := by have := hb5.out.size; simp at this; omega
  have hsz5' : w1.heap.size < w5.heap.size := by omega
  have x0 : w5.cell? ⟨w1.heap.size, 0, none⟩ = some (.bool d0) := (hb5.out.cell (p := ⟨w1.heap.size, 0, none⟩) (by simp; omega)).trans ((World.cell?_alloc_lt w2 _ ⟨w1.heap.size, 0, none⟩ hsz2).trans K0.out)
  have x1 : w5.cell? ⟨w1.heap.size, 1, none⟩ = some (.bool d1) := (hb5.out.cell (p := ⟨w1.heap.size, 1, none⟩) (by simp; omega)).trans ((World.cell?_alloc_lt w2 _ ⟨w1.heap.size, 1, none⟩ hsz2).trans K1.out)
  have x2 : w5.cell? ⟨w1.heap.size, 2, none⟩ = some (.int .u8 d2) := (hb5.out.cell (p := ⟨w1.heap.size, 2, none⟩) (by simp; omega)).trans ((World.cell?_alloc_lt w2 _ ⟨w1.heap.size, 2, none⟩ hsz2).trans K2.out)
  have y0 : w5.cell? ⟨w2.heap.size, 0, none⟩ = some (.bool d0) := (hb5.out.cell (p := ⟨w2.heap.size, 0, none⟩) (by simp)).trans (by simp [go_sem])
  have y1 : w5.cell? ⟨w2.heap.size, 1, none⟩ = some (.bool d1) := (hb5.out.cell (p := ⟨w2.heap.size, 1, none⟩) (by simp)).trans (by simp [go_sem])
  have y2 : w5.cell? ⟨w2.heap.size, 2, none⟩ = some (.int .u8 d2) := (hb5.out.cell (p := ⟨w2.heap.size, 2, none⟩) (by simp)).trans (by simp [go_sem])
  have hBs5 := Lib.hid ((Below.refl _ w5).alloc (Nat.le_refl _) (.cells #[] 5))
  have HO5 : Hid (OB (w5.alloc (.cells #[] 5)) w5.heap.size (some ⟨w5.heap.size, 0, none⟩) 0 0 []) := by
    have := OB.made w5 w5.heap.size (Nat.le_refl _) #[] (by simp)
    simpa [Hid] using this
  have T0 := Lib.hid ((G0.out.alloc (.cells #[.bool d0, .bool d1, .int .u8 d2] 24)).below hb5.out)
  have TA := Lib.hid ((GA.out.alloc (.cells #[.bool d0, .bool d1, .int .u8 d2] 24)).below hb5.out)
  have hB5 : Hid (Below w.heap.size w w5) := (hB2.out.alloc hB2.out.size (.cells #[.bool d0, .bool d1, .int .u8 d2] 24)).trans (hb5.out.mono (by simp; have := hB2.out.size; omega))
  have TE := Lib.hid (GE.out.below (((Below.refl _ w2).alloc (Nat.le_refl _) (.cells #[.bool d0, .bool d1, .int .u8 d2] 24)).trans (hb5.out.mono (by simp))))
  go_wp2_with (first
    | (go_at_call 9; refine (same_yes _ _ _ _ _ _ _ _ HP.out HQ.out).mono ?_; rintro e w6 ⟨rfl, rfl⟩)
    | (at_builtin; refine wpList_appB rfl (.tmp 38) (.tmp 39) rfl w5.heap.size 0 0 (some ⟨w5.heap.size, 0, none⟩) [] rfl (by exact HO5.out) A0 n0 c0 l0 rfl (by exact T0.out.below hBs5.out) (by omega) (by exact hBs5.out.size) ?_; intro A6 c6 w6 hown3 hg3 hat3; refine Hid.out ?_))
  refine Lib.hid ?_
  have hb6 : Hid (Below w5.heap.size w5 w6) := HO5.out.grows hBs5.out hg3 (Nat.le_refl _) hBs5.out.size
  simp only [Nat.zero_add, List.nil_append] at hown3 ⊢
  have HO6 := Lib.hid hown3
  clear hown3 hg3 hat3 y0 y1 y2
  go_wp2_with (at_builtin; refine wpList_appZ M rfl (.tmp 40) (.tmp 43) rfl w5.heap.size n0 c6 A6 l0 rfl (by exact HO6.out) k (congrArg (Value.int .i64) HK.out) HM.out HMb.out (by exact hb6.out.size) ?_; intro A7 c7 w7 hown4 hg4; refine Hid.out ?_)
  refine Lib.hid ?_
  have hb7 : Hid (Below w5.heap.size w5 w7) := HO6.out.grows hb6.out hg4 (Nat.le_refl _) hb6.out.size
  have HR7 := Lib.hid hown4.rb
  clear hown4 hg4
  go_wp2_with fail
  have hbt7 := Lib.hid (below_bytesWorld w7 s1)
  have hrt7 := Lib.hid (RB.ofText w7 s1)
  have hb7' := Lib.hid (hb7.out.trans (hbt7.out.mono hb7.out.size))
  refine (implDecodeK n _ _ _ _ _ _ _ _ _ ea (by rw [← Go.ByteArray.toList_eq]; exact hn.out) (HR7.out.below hbt7.out) hrt7.out (by have := HKn.out; have := HM.out; omega) HMb.out (by omega) (TE.out.below hb7'.out)).mono ?_
  rintro e w8 ⟨A8, c8, f0, f1, f2, rfl, hc8, hc9, hR8, hn8, fb0, fb1, fb2, fbw⟩
  obtain rfl : f0 = d0 := by rw [fb0.out, hb0.out, Go.ByteArray.toList_eq]
  obtain rfl : f1 = d1 := by rw [fb1.out, hb1.out, Go.ByteArray.toList_eq]
  obtain rfl : f2 = d2 := by rw [fb2.out, hbb2.out, Go.ByteArray.toList_eq]
  rw [← Go.ByteArray.toList_eq] at hR8
  have hb8 := Lib.hid (hb7'.out.trans (fbw.mono hb7'.out.size))
  have hsz8 : w1.heap.size < w8.heap.size := by have := hb8.out.size; omega
  have z0 : w8.cell? ⟨w1.heap.size, 0, none⟩ = some (.bool f0) := (hb8.out.cell (p := ⟨w1.heap.size, 0, none⟩) hsz5').trans x0
  have z1 : w8.cell? ⟨w1.heap.size, 1, none⟩ = some (.bool f1) := (hb8.out.cell (p := ⟨w1.heap.size, 1, none⟩) hsz5').trans x1
  have z2 : w8.cell? ⟨w1.heap.size, 2, none⟩ = some (.int .u8 f2) := (hb8.out.cell (p := ⟨w1.heap.size, 2, none⟩) hsz5').trans x2
  have P8 := Lib.hid (hR8.out.alloc (.cells #[.bool f0, .bool f1, .int .u8 f2] 24))
  have Q8 := Lib.hid ((TA.out.below hb8.out).alloc (.cells #[.bool f0, .bool f1, .int .u8 f2] 24))
  have hB8 := Lib.hid (hB5.out.trans (hb8.out.mono hB5.out.size))
  have hs8 := run_to A8 M c8 (n : Int) (by omega) (by omega)
  simp only [Int.toNat_natCast] at hs8
  clear fbw x0 x1 x2 hcv
  go_wp2_with (go_at_call 9; refine (same_yes _ _ _ _ _ _ _ _ P8.out Q8.out).mono ?_; rintro e w9 ⟨rfl, rfl⟩)
  go_ret
  exact ⟨ret_true (by simp), hB8.out.alloc hB8.out.size _⟩

/-- What the walk gives, said of whatever the row reads. -/
theorem contract (H : Type) (enc : TypeId × Value → H) (W : World) (base : Nat) (args : Array Value) (ds gs : List (DataW H)) (before : List MemPlace)
    (hval : ∀ (j : Nat) t v, Tryd.f6.params[j]? = some t → args[j]? = some v → Value.okWide Tryd.prog W .any base t v)
    (hW : DataW.Whole enc Tryd.prog Tryd.f6.params.toList Rows.fnDecodeRoadsSpec.vars false W args.toList ds gs before)
    (hsz : (DataW.weightsEach Tryd.prog (Tryd.f6.params.toList ++ Rows.fnDecodeRoadsSpec.plain.varTypes Tryd.prog) (ds ++ gs)).all (· ≤ reachBytes) = true) (hE : ErrIs W) :
    Calls Tryd.prog 6 args W fun e W' => ∃ v, e = .returned v ∧ Rows.fnDecodeRoadsSpec.post enc Tryd.prog Tryd.f6 false true false false W args v W' := by
  have hW' := hW
  obtain ⟨p, q, hA0, hV, rfl, _, _⟩ := hW
  have hA : DataW.TrodAll enc Tryd.prog W 0 (fun _ => true) true Tryd.f6.params.toList args.toList ds p := hA0
  clear hA0
  rw [Tryd.params6] at hA hval hsz
  obtain ⟨v0, vs0, d0, ds0, p0, q0, hargs, rfl, rfl, h0, r0⟩ := trodAll_cons hA
  obtain ⟨v1, vs1, d1, ds1, p1, q1, rfl, rfl, rfl, h1, r1⟩ := trodAll_cons r0
  obtain ⟨rfl, rfl, rfl⟩ := trodAll_nil r1
  obtain rfl : args = #[v0, v1] := by cases args; simp_all
  obtain ⟨rfl, rfl⟩ := trodVars_none hV
  have k0 := h0
  have lt0 : ∀ x ∈ p0, x.block < W.heap.size := by obtain ⟨m, hm⟩ := k0; exact DataW.trod_lt m _ _ _ hm
  have k1 := h1
  have lt1 : ∀ x ∈ p1, x.block < W.heap.size := by obtain ⟨m, hm⟩ := k1; exact DataW.trod_lt m _ _ _ hm
  obtain ⟨A0, n0, c0, rfl⟩ := okWide_slice Tryd.underlying22 (hval 0 22 v0 rfl rfl)
  obtain ⟨l0, h0r, e0, g0, u0⟩ := argB h0 (weigh hsz (j := 0) rfl rfl)
  obtain ⟨s1, rfl, rfl, rfl, w1⟩ := open_string Tryd.underlying9 (hval 1 9 v1 rfl rfl) h1
  obtain ⟨g1, u1⟩ := argS (H := H) (weigh hsz (j := 1) rfl rfl)
  refine (walk A0 n0 c0 l0 s1 W h0r e0 g0 g1 hE).mono fun e W' ⟨he, bel⟩ => ?_
  subst he
  exact ⟨_, rfl, _, _, _, [], _, [], hW', trodAll_mk1 (shut_bool Tryd.underlying4 _), (trodAll_cons_mk (Below.trod laidOut (by kernel_rfl) (of_decide_eq_true (by kernel_rfl)) k0 bel lt0) (trodAll_cons_mk (Below.trod laidOut (by kernel_rfl) (of_decide_eq_true (by kernel_rfl)) k1 bel lt1) trodAll_mk0)), rfl, bel.frame _, fun h => by cases h⟩

theorem reads (os : Os) {H : Type} (enc : TypeId × Value → H) : ∃ places, DataW.whole enc Tryd.prog ((World.doorLaid Tryd.prog 400 os).forCall (fun _ _ => 0) ⟨#[], #[.slice none 0 0, .string ⟨#[]⟩], []⟩).memory Tryd.f6.params.toList Rows.fnDecodeRoadsSpec.vars false (#[.slice none 0 0, .string ⟨#[]⟩] : Array Value).toList 8 = some ([.nil, .lit (.string [])], [], places) :=
  ⟨[], by kernel_rfl⟩

set_option maxRecDepth 100000 in
theorem lifted (os : Os) (started : os.Started) (H : Type) (enc : TypeId × Value → H) (F : Stop.Interp) :
    ReturnsInHanded {} Tryd.checked os 6 .any ((OpenSpec.ofChange Rows.fnDecodeRoadsSpec).preRow enc Tryd.prog Tryd.f6 Rows.fnDecodeRoadsRow.domain false Rows.fnDecodeRoadsRow.laid) (((OpenSpec.ofChange Rows.fnDecodeRoadsSpec).at F).post enc Tryd.prog Tryd.f6 false true false false) := by
  obtain ⟨places, hx⟩ := reads os enc
  refine returnsInHanded_of_row (C := Tryd.checked) (s := OpenSpec.ofChange Rows.fnDecodeRoadsSpec) own started (by kernel_rfl) Tryd.func6
    (witness_row_atRef (enc := enc) (C := Tryd.checked) false (World.doorLaid Tryd.prog 400 os) #[.slice none 0 0, .string ⟨#[]⟩] rfl (by kernel_rfl) (by kernel_rfl) (by kernel_rfl)
      (OpenSpec.preRow_of_cond 8 hx (by kernel_rfl) (fun k hk => by cases hk) (by kernel_rfl) (door_met os _))) ?_
  intro W base args ds gs before hval hW _ _ hsz hL _ _
  exact contract H enc W base args ds gs before hval hW hsz (errIs_of hL)

theorem over : Rows.FnDecodeRoadsSaid :=
  OpenClaim.holds_of_cond 6 Tryd.f6 rfl rfl rfl rfl rfl rfl rfl ⟨rfl, rfl, rfl, rfl, rfl⟩ rfl rfl rfl rfl rfl (by kernel_rfl) Tryd.func6 (by kernel_rfl)
    (of_decide_eq_true (by kernel_rfl)) (by unfold Func.isWrapper; first | (rw [if_pos (by decide +kernel)]; kernel_rfl) | (rw [if_neg (by decide +kernel)]; exact ⟨rfl, rfl⟩))
    (fun os started H enc _ F => by rw [OpenClaim.pre_eq_preRow]; exact lifted os started H enc F)

theorem plain (f : FuncId) (fn : Func) (hf : Tryd.pinned.checked.prog.funcNamed Rows.fnDecodeRoadsRow.func = some f) (hfn : Tryd.pinned.checked.prog.funcs[f]? = some fn) :
    true = Tryd.pinned.checked.prog.looks [] ∧ ∀ (j : Nat) t, fn.params[j]? = some t → Tryd.pinned.checked.prog.wantsStandIn t = false := by
  obtain rfl : f = 6 := Option.some.inj ((show Tryd.prog.funcNamed Rows.fnDecodeRoadsRow.func = some 6 by kernel_rfl).symm.trans hf) |>.symm
  obtain rfl : fn = Tryd.f6 := (Option.some.inj (Tryd.func6.symm.trans hfn)).symm
  refine ⟨by kernel_rfl, fun j t ht => ?_⟩
  rw [Tryd.params6] at ht
  have hm := Array.mem_of_getElem? ht
  simp at hm
  first
    | (subst hm; exact (show Tryd.prog.wantsStandIn _ = false by kernel_rfl))
    | (rcases hm with rfl | rfl <;> exact (show Tryd.prog.wantsStandIn _ = false by kernel_rfl))
    | (rcases hm with rfl | rfl | rfl <;> exact (show Tryd.prog.wantsStandIn _ = false by kernel_rfl))
    | (rcases hm with rfl | rfl | rfl | rfl <;> exact (show Tryd.prog.wantsStandIn _ = false by kernel_rfl))

theorem proved : Rows.FnDecodeRoadsCardSaid :=
  Claim7.holds_tied_plain_at .later [] _ _ _ _ over (fun _ h => by cases h) (by kernel_rfl) (fun _ h => by cases h) fnDecodeRoads_row_tie rfl ⟨rfl, rfl⟩ (by kernel_rfl) rfl plain (by kernel_rfl)
end Go.Proofs.YtgkpekdgdiphdaaDoor.fnDecodeRoads
