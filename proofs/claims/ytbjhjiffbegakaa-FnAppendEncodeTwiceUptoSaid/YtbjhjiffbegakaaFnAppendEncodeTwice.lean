/-
  FnAppendEncodeTwice: appended twice is appended once, put together, where the arguments hold together at most 1048576 values and letters.
-/
import Derived.Test.YtbjhjiffbegakaaCommon
import Derived.Test.YtbjhjiffbegakaaSame
import Derived.Test.YtbjhjiffbegakaaAppEnc
namespace Go.Proofs.Ytbjhjiffbegakaa.fnAppendEncodeTwice
open Go.ChangeShapes Go.WideShapes Go.ChangeAt Go.RowKit Go.Lib
open Go.ChangeMaps (open_string shut_string)
set_option linter.unusedVariables false

theorem enc_app (a b : List UInt8) : Hx.encode (a ++ b) = Hx.encode a ++ Hx.encode b := by
  unfold Hx.encode
  simp

set_option maxHeartbeats 1000000 in
set_option maxRecDepth 100000 in
theorem walk (A0 : Option Addr) (n0 c0 : Nat) (l0 : List UInt8) (A1 : Option Addr) (n1 c1 : Nat) (l1 : List UInt8) (A2 : Option Addr) (n2 c2 : Nat) (l2 : List UInt8) (w : World) (h0 : RB w A0 n0 l0) (e0 : n0 ≤ c0) (g0 : c0 ≤ 140737488351232) (h1 : RB w A1 n1 l1) (e1 : n1 ≤ c1) (g1 : c1 ≤ 140737488351232) (h2 : RB w A2 n2 l2) (e2 : n2 ≤ c2) (g2 : c2 ≤ 140737488351232) (hk : c0 + c1 + c2 ≤ 1048576) :
    Calls Try.prog 5 #[.slice A0 n0 c0, .slice A1 n1 c1, .slice A2 n2 c2] w fun e w' => e = .returned (.bool true) ∧ Below w.heap.size w w' := by
  have HB0 := Lib.hid h0
  have HB1 := Lib.hid h1
  have HB2 := Lib.hid h2
  clear h0 h1 h2
  obtain ⟨k, hk⟩ : ∃ k : Nat, n1 + n2 = k := ⟨_, rfl⟩
  obtain ⟨m, hm⟩ : ∃ m : Nat, m = n0 + 2 * k := ⟨_, rfl⟩
  obtain ⟨j, hj⟩ : ∃ j : Nat, j = 2 * k := ⟨_, rfl⟩
  obtain ⟨m1, hm1⟩ : ∃ j : Nat, j = n0 + 2 * n1 := ⟨_, rfl⟩
  have p1 : IntKind.i64.wrap (2 * (k : Int)) = (j : Int) := by rw [IntWalk.i64_in _ (by omega)]; omega
  have p2 : IntKind.i64.wrap ((n0 : Int) + (j : Int)) = (m : Int) := by rw [IntWalk.i64_in _ (by omega)]; omega
  have HK := Lib.hid hk
  have HKb := Lib.hid (show k ≤ 140737488355328 by omega)
  have hs1 := Lib.hid (show m1 ≤ 140737488355328 by omega)
  have hs2 := Lib.hid (show m ≤ 140737488355328 by omega)
  have HM := Lib.hid hm
  have HM1 := Lib.hid hm1
  have HM2 := Lib.hid (show m = m1 + 2 * n2 by omega)
  clear hk hm hj hm1
  go_enter Try.func5, Try.ntmps5
  have hBs := Lib.hid ((Below.refl _ w).alloc (Nat.le_refl _) (.cells #[] 5))
  have HO0 : Hid (OB (w.alloc (.cells #[] 5)) w.heap.size (some ⟨w.heap.size, 0, none⟩) 0 0 []) := by
    have := OB.made w w.heap.size (Nat.le_refl _) #[] (by simp)
    simpa [Hid] using this
  go_wp2_with (at_builtin; refine wpList_appB rfl (.tmp 8) (.tmp 9) rfl w.heap.size 0 0 (some ⟨w.heap.size, 0, none⟩) [] rfl (by exact HO0.out) A1 n1 c1 l1 rfl (by exact HB1.out.alloc _) (by omega) (by exact hBs.out.size) ?_; intro A3 c3 w3 hown1 hg1 hat1; refine Hid.out ?_)
  refine Lib.hid ?_
  have hb3 : Hid (Below w.heap.size w w3) := HO0.out.grows hBs.out hg1 (Nat.le_refl _) hBs.out.size
  simp only [Nat.zero_add, List.nil_append] at hown1 ⊢
  have HO1 := Lib.hid hown1
  clear hown1 hg1 hat1
  go_wp2_with (at_builtin; refine wpList_appBk k rfl (.tmp 10) (.tmp 11) rfl w.heap.size n1 c3 A3 l1 rfl (by exact HO1.out) A2 n2 c2 l2 rfl (by exact HB2.out.below hb3.out) HK.out HKb.out (by exact hb3.out.size) ?_; intro A4 c4 w4 hown2 hg2 hat2; refine Hid.out ?_)
  refine Lib.hid ?_
  have hb4 : Hid (Below w.heap.size w w4) := HO1.out.grows hb3.out hg2 (Nat.le_refl _) hb3.out.size
  have HR := Lib.hid hown2.rb
  have H0 := Lib.hid (HB0.out.below hb4.out)
  have H1 := Lib.hid (HB1.out.below hb4.out)
  have H2 := Lib.hid (HB2.out.below hb4.out)
  clear hown2 hg2 hat2
  go_wp2_with fail
  refine (implAppendEncodeK m _ _ _ l0 _ _ _ _ _ HM.out H0.out HR.out hs2.out).mono ?_
  rintro e w5 ⟨A5, c5, rfl, hO5, hb5⟩
  have G0 := Lib.hid (H0.out.below hb5)
  have G1 := Lib.hid (H1.out.below hb5)
  have G2 := Lib.hid (H2.out.below hb5)
  have GR := Lib.hid (HR.out.below hb5)
  have hE5 := Lib.hid (hb4.out.trans (hb5.mono hb4.out.size))
  clear hb5 hO5
  go_wp2_with fail
  refine (implAppendEncodeK m1 _ _ _ l0 _ _ _ _ _ HM1.out G0.out G1.out hs1.out).mono ?_
  rintro e w6 ⟨A6, c6, rfl, hO6, hb6⟩
  clear p1 p2
  have F0 := Lib.hid (G0.out.below hb6)
  have F2 := Lib.hid (G2.out.below hb6)
  have FR := Lib.hid (GR.out.below hb6)
  have FA := Lib.hid hO6.out.rb
  have hE6 := Lib.hid (hE5.out.trans (hb6.mono hE5.out.size))
  clear hb6 hO6
  go_wp2_with fail
  refine (implAppendEncodeK m _ _ _ _ _ _ _ _ _ HM2.out FA.out F2.out hs2.out).mono ?_
  rintro e w7 ⟨A7, c7, rfl, hO7, hb7⟩
  have E0 := Lib.hid (F0.out.below hb7)
  have ER := Lib.hid (FR.out.below hb7)
  have EA := Lib.hid hO7.out.rb
  have hE7 := Lib.hid (hE6.out.trans (hb7.mono hE6.out.size))
  clear hb7 hO7
  go_wp2_with fail
  refine (implAppendEncodeK m _ _ _ l0 _ _ _ _ _ HM.out E0.out ER.out hs2.out).mono ?_
  rintro e w8 ⟨A8, c8, rfl, hO8, hb8⟩
  have DA := Lib.hid (EA.out.below hb8)
  have DB := Lib.hid hO8.out.rb
  have hE8 := Lib.hid (hE7.out.trans (hb8.mono hE7.out.size))
  clear hb8 hO8
  go_wp2_with (go_at_call 12; refine (same_any _ _ _ _ _ _ _ _ _ DA.out DB.out).mono ?_; rintro e w9 ⟨rfl, rfl⟩)
  go_ret
  exact ⟨ret_true (by simp [enc_app]), hE8.out⟩

/-- What the walk gives, said of whatever the row reads. -/
theorem contract (H : Type) (enc : TypeId × Value → H) (W : World) (base : Nat) (args : Array Value) (ds gs : List (DataW H)) (before : List MemPlace)
    (hval : ∀ (j : Nat) t v, Try.f5.params[j]? = some t → args[j]? = some v → Value.okWide Try.prog W .any base t v)
    (hW : DataW.Whole enc Try.prog Try.f5.params.toList Rows.fnAppendEncodeTwiceSpec.vars false W args.toList ds gs before)
    (hsz : (DataW.weightsEach Try.prog (Try.f5.params.toList ++ Rows.fnAppendEncodeTwiceSpec.plain.varTypes Try.prog) (ds ++ gs)).all (· ≤ reachBytes) = true) (hk : Rows.uptoBulkAll (ds ++ gs) ≤ 1048576) :
    Calls Try.prog 5 args W fun e W' => ∃ v, e = .returned v ∧ Rows.fnAppendEncodeTwiceSpec.post enc Try.prog Try.f5 false true false false W args v W' := by
  have hW' := hW
  obtain ⟨p, q, hA0, hV, rfl, _, _⟩ := hW
  have hA : DataW.TrodAll enc Try.prog W 0 (fun _ => true) true Try.f5.params.toList args.toList ds p := hA0
  clear hA0
  rw [Try.params5] at hA hval hsz
  obtain ⟨v0, vs0, d0, ds0, p0, q0, hargs, rfl, rfl, h0, r0⟩ := trodAll_cons hA
  obtain ⟨v1, vs1, d1, ds1, p1, q1, rfl, rfl, rfl, h1, r1⟩ := trodAll_cons r0
  obtain ⟨v2, vs2, d2, ds2, p2, q2, rfl, rfl, rfl, h2, r2⟩ := trodAll_cons r1
  obtain ⟨rfl, rfl, rfl⟩ := trodAll_nil r2
  obtain rfl : args = #[v0, v1, v2] := by cases args; simp_all
  obtain ⟨rfl, rfl⟩ := trodVars_none hV
  have k0 := h0
  have lt0 : ∀ x ∈ p0, x.block < W.heap.size := by obtain ⟨m, hm⟩ := k0; exact DataW.trod_lt m _ _ _ hm
  have k1 := h1
  have lt1 : ∀ x ∈ p1, x.block < W.heap.size := by obtain ⟨m, hm⟩ := k1; exact DataW.trod_lt m _ _ _ hm
  have k2 := h2
  have lt2 : ∀ x ∈ p2, x.block < W.heap.size := by obtain ⟨m, hm⟩ := k2; exact DataW.trod_lt m _ _ _ hm
  obtain ⟨A0, n0, c0, rfl⟩ := okWide_slice Try.underlying22 (hval 0 22 v0 rfl rfl)
  obtain ⟨l0, h0r, e0, g0, u0⟩ := argB h0 (weigh hsz (j := 0) rfl rfl)
  obtain ⟨A1, n1, c1, rfl⟩ := okWide_slice Try.underlying22 (hval 1 22 v1 rfl rfl)
  obtain ⟨l1, h1r, e1, g1, u1⟩ := argB h1 (weigh hsz (j := 1) rfl rfl)
  obtain ⟨A2, n2, c2, rfl⟩ := okWide_slice Try.underlying22 (hval 2 22 v2 rfl rfl)
  obtain ⟨l2, h2r, e2, g2, u2⟩ := argB h2 (weigh hsz (j := 2) rfl rfl)
  simp only [List.append_nil, Rows.uptoBulkAll] at hk
  refine (walk A0 n0 c0 l0 A1 n1 c1 l1 A2 n2 c2 l2 W h0r e0 g0 h1r e1 g1 h2r e2 g2 (by omega)).mono fun e W' ⟨he, bel⟩ => ?_
  subst he
  exact ⟨_, rfl, _, _, _, [], _, [], hW', trodAll_mk1 (shut_bool Try.underlying4 _), (trodAll_cons_mk (Below.trod laidOut (by kernel_rfl) (of_decide_eq_true (by kernel_rfl)) k0 bel lt0) (trodAll_cons_mk (Below.trod laidOut (by kernel_rfl) (of_decide_eq_true (by kernel_rfl)) k1 bel lt1) (trodAll_cons_mk (Below.trod laidOut (by kernel_rfl) (of_decide_eq_true (by kernel_rfl)) k2 bel lt2) trodAll_mk0))), rfl, bel.frame _, fun h => by cases h⟩

set_option maxRecDepth 100000 in
theorem lifted (os : Os) (started : os.Started) (H : Type) (enc : TypeId × Value → H) (F : Stop.Interp) :
    ReturnsInHanded {} Try.checked os 5 .any ((Rows.OpenSpec.upto Rows.fnAppendEncodeTwiceSpec).pre6 enc Try.prog Try.f5 Rows.fnAppendEncodeTwiceUptoRow.domain false) (((Rows.OpenSpec.upto Rows.fnAppendEncodeTwiceSpec).at F).post enc Try.prog Try.f5 false true false false) := by
  refine returnsInHanded_of_cond_sized (C := Try.checked) (s := Rows.OpenSpec.upto Rows.fnAppendEncodeTwiceSpec) (k := Rows.uptoSmall) rfl own started (by kernel_rfl) Try.func5
    (OpenSpec.witness (enc := enc) (C := Try.checked) (s := Rows.OpenSpec.upto Rows.fnAppendEncodeTwiceSpec) (k := Rows.uptoSmall) rfl false ⟨#[], #[.slice none 0 0, .slice none 0 0, .slice none 0 0], []⟩ 8 (by kernel_rfl) (by kernel_rfl) (by kernel_rfl)
      (x := ([.nil, .nil, .nil], [], [])) (by kernel_rfl) rfl (by kernel_rfl)) ?_
  intro W base args ds gs before hval hW _ hk hsz _
  exact contract H enc W base args ds gs before hval hW hsz (of_decide_eq_true hk)

theorem over : Rows.fnAppendEncodeTwiceUptoRow.holds Try.pinned (Rows.OpenSpec.upto Rows.fnAppendEncodeTwiceSpec) :=
  OpenClaim.holds_of_cond 5 Try.f5 rfl rfl rfl rfl rfl rfl rfl ⟨rfl, rfl, rfl, rfl, rfl⟩ rfl rfl rfl rfl rfl (by kernel_rfl) Try.func5 (by kernel_rfl)
    (of_decide_eq_true (by kernel_rfl)) (by unfold Func.isWrapper; first | (rw [if_pos (by decide +kernel)]; kernel_rfl) | (rw [if_neg (by decide +kernel)]; exact ⟨rfl, rfl⟩))
    (fun os started H enc _ F => lifted os started H enc F)

theorem proved : Rows.FnAppendEncodeTwiceUptoSaid := over
end Go.Proofs.Ytbjhjiffbegakaa.fnAppendEncodeTwice
