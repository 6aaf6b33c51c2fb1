/-
  FnExactAppendEncode: AppendEncode puts the reference behind the buffer, where the arguments hold together at most 1048576 values and letters.
-/
import Derived.Test.YtbjhjiffbegakaaCommon
import Derived.Test.YtbjhjiffbegakaaSame
import Derived.Test.YtbjhjiffbegakaaSpecEncode
import Derived.Test.YtbjhjiffbegakaaAppEnc
namespace Go.Proofs.Ytbjhjiffbegakaa.fnExactAppendEncode
open Go.ChangeShapes Go.WideShapes Go.ChangeAt Go.RowKit Go.Lib
open Go.ChangeMaps (open_string shut_string)
set_option linter.unusedVariables false



set_option maxHeartbeats 1000000 in
set_option maxRecDepth 100000 in
theorem walk (A0 : Option Addr) (n0 c0 : Nat) (l0 : List UInt8) (A1 : Option Addr) (n1 c1 : Nat) (l1 : List UInt8) (w : World) (h0 : RB w A0 n0 l0) (e0 : n0 ≤ c0) (g0 : c0 ≤ 140737488351232) (h1 : RB w A1 n1 l1) (e1 : n1 ≤ c1) (g1 : c1 ≤ 140737488351232) (hk : c0 + c1 ≤ 1048576) :
    Calls Try.prog 6 #[.slice A0 n0 c0, .slice A1 n1 c1] w fun e w' => e = .returned (.bool true) ∧ Below w.heap.size w w' := by
  have HB0 := Lib.hid h0
  have HB1 := Lib.hid h1
  clear h0 h1
  go_enter Try.func6, Try.ntmps6
  go_wp2_with fail
  refine (implAppendEncode _ _ _ l0 _ _ _ l1 _ HB0.out HB1.out (by omega)).mono ?_
  rintro e w1 ⟨A, c, rfl, hO, hb1⟩
  have HE1 := Lib.hid hb1
  have HRa := Lib.hid hO.out.rb
  have HR0 := Lib.hid (HB0.out.below hb1)
  have HR1 := Lib.hid (HB1.out.below hb1)
  clear hO hb1
  have hBs := Lib.hid ((Below.refl _ w1).alloc (Nat.le_refl _) (.cells #[] 5))
  have HO0 : Hid (OB (w1.alloc (.cells #[] 5)) w1.heap.size (some ⟨w1.heap.size, 0, none⟩) 0 0 []) := by
    have := OB.made w1 w1.heap.size (Nat.le_refl _) #[] (by simp)
    simpa [Hid] using this
  go_wp2_with (at_builtin; refine wpList_appB rfl (.tmp 8) (.tmp 9) rfl w1.heap.size 0 0 (some ⟨w1.heap.size, 0, none⟩) [] rfl (by exact HO0.out) A0 n0 c0 l0 rfl (by exact HR0.out.alloc _) (by omega) (by exact hBs.out.size) ?_; intro A2 c2 w4 hown1 hg1 hat1; refine Hid.out ?_)
  refine Lib.hid ?_
  have hb4 : Hid (Below w1.heap.size w1 w4) := HO0.out.grows hBs.out hg1 (Nat.le_refl _) hBs.out.size
  simp only [Nat.zero_add, List.nil_append] at hown1 ⊢
  have HO1 := Lib.hid hown1
  clear hown1 hg1 hat1
  go_wp2_with fail
  refine (specEncode _ _ _ l1 _ (HR1.out.below hb4.out) (by omega)).mono ?_
  rintro e w5 ⟨A3, c3, rfl, hO3, hb5⟩
  have HRs := Lib.hid hO3.rb
  have HO5 := Lib.hid (HO1.out.below hb5)
  have hb5' := Lib.hid (hb4.out.trans (hb5.mono hb4.out.size))
  clear hO3 hb5
  go_wp2_with (at_builtin; refine wpList_appB rfl (.tmp 10) (.tmp 12) rfl w1.heap.size n0 c2 A2 l0 rfl (by exact HO5.out) A3 (2 * n1) c3 (Hx.encode l1) rfl (by exact HRs.out) (by omega) (by exact hb5'.out.size) ?_; intro A4 c4 w6 hown2 hg2 hat2; refine Hid.out ?_)
  refine Lib.hid ?_
  have hb6 : Hid (Below w1.heap.size w1 w6) := HO5.out.grows hb5'.out hg2 (Nat.le_refl _) hb5'.out.size
  have HRb := Lib.hid hown2.rb
  have HRa6 := Lib.hid (HRa.out.below hb6.out)
  clear hown2 hg2 hat2
  go_wp2_with (go_at_call 12; refine (same_any _ _ _ _ _ _ _ _ _ HRa6.out HRb.out).mono ?_; rintro e w7 ⟨rfl, rfl⟩)
  go_ret
  exact ⟨ret_true (by simp), HE1.out.trans (hb6.out.mono HE1.out.size)⟩

/-- What the walk gives, said of whatever the row reads. -/
theorem contract (H : Type) (enc : TypeId × Value → H) (W : World) (base : Nat) (args : Array Value) (ds gs : List (DataW H)) (before : List MemPlace)
    (hval : ∀ (j : Nat) t v, Try.f6.params[j]? = some t → args[j]? = some v → Value.okWide Try.prog W .any base t v)
    (hW : DataW.Whole enc Try.prog Try.f6.params.toList Rows.fnExactAppendEncodeSpec.vars false W args.toList ds gs before)
    (hsz : (DataW.weightsEach Try.prog (Try.f6.params.toList ++ Rows.fnExactAppendEncodeSpec.plain.varTypes Try.prog) (ds ++ gs)).all (· ≤ reachBytes) = true) (hk : Rows.uptoBulkAll (ds ++ gs) ≤ 1048576) :
    Calls Try.prog 6 args W fun e W' => ∃ v, e = .returned v ∧ Rows.fnExactAppendEncodeSpec.post enc Try.prog Try.f6 false true false false W args v W' := by
  have hW' := hW
  obtain ⟨p, q, hA0, hV, rfl, _, _⟩ := hW
  have hA : DataW.TrodAll enc Try.prog W 0 (fun _ => true) true Try.f6.params.toList args.toList ds p := hA0
  clear hA0
  rw [Try.params6] at hA hval hsz
  obtain ⟨v0, vs0, d0, ds0, p0, q0, hargs, rfl, rfl, h0, r0⟩ := trodAll_cons hA
  obtain ⟨v1, vs1, d1, ds1, p1, q1, rfl, rfl, rfl, h1, r1⟩ := trodAll_cons r0
  obtain ⟨rfl, rfl, rfl⟩ := trodAll_nil r1
  obtain rfl : args = #[v0, v1] := by cases args; simp_all
  obtain ⟨rfl, rfl⟩ := trodVars_none hV
  have k0 := h0
  have lt0 : ∀ x ∈ p0, x.block < W.heap.size := by obtain ⟨m, hm⟩ := k0; exact DataW.trod_lt m _ _ _ hm
  have k1 := h1
  have lt1 : ∀ x ∈ p1, x.block < W.heap.size := by obtain ⟨m, hm⟩ := k1; exact DataW.trod_lt m _ _ _ hm
  obtain ⟨A0, n0, c0, rfl⟩ := okWide_slice Try.underlying22 (hval 0 22 v0 rfl rfl)
  obtain ⟨l0, h0r, e0, g0, u0⟩ := argB h0 (weigh hsz (j := 0) rfl rfl)
  obtain ⟨A1, n1, c1, rfl⟩ := okWide_slice Try.underlying22 (hval 1 22 v1 rfl rfl)
  obtain ⟨l1, h1r, e1, g1, u1⟩ := argB h1 (weigh hsz (j := 1) rfl rfl)
  simp only [List.append_nil, Rows.uptoBulkAll] at hk
  refine (walk A0 n0 c0 l0 A1 n1 c1 l1 W h0r e0 g0 h1r e1 g1 (by omega)).mono fun e W' ⟨he, bel⟩ => ?_
  subst he
  exact ⟨_, rfl, _, _, _, [], _, [], hW', trodAll_mk1 (shut_bool Try.underlying4 _), (trodAll_cons_mk (Below.trod laidOut (by kernel_rfl) (of_decide_eq_true (by kernel_rfl)) k0 bel lt0) (trodAll_cons_mk (Below.trod laidOut (by kernel_rfl) (of_decide_eq_true (by kernel_rfl)) k1 bel lt1) trodAll_mk0)), rfl, bel.frame _, fun h => by cases h⟩

set_option maxRecDepth 100000 in
theorem lifted (os : Os) (started : os.Started) (H : Type) (enc : TypeId × Value → H) (F : Stop.Interp) :
    ReturnsInHanded {} Try.checked os 6 .any ((Rows.OpenSpec.upto Rows.fnExactAppendEncodeSpec).pre6 enc Try.prog Try.f6 Rows.fnExactAppendEncodeUptoRow.domain false) (((Rows.OpenSpec.upto Rows.fnExactAppendEncodeSpec).at F).post enc Try.prog Try.f6 false true false false) := by
  refine returnsInHanded_of_cond_sized (C := Try.checked) (s := Rows.OpenSpec.upto Rows.fnExactAppendEncodeSpec) (k := Rows.uptoSmall) rfl own started (by kernel_rfl) Try.func6
    (OpenSpec.witness (enc := enc) (C := Try.checked) (s := Rows.OpenSpec.upto Rows.fnExactAppendEncodeSpec) (k := Rows.uptoSmall) rfl false ⟨#[], #[.slice none 0 0, .slice none 0 0], []⟩ 8 (by kernel_rfl) (by kernel_rfl) (by kernel_rfl)
      (x := ([.nil, .nil], [], [])) (by kernel_rfl) rfl (by kernel_rfl)) ?_
  intro W base args ds gs before hval hW _ hk hsz _
  exact contract H enc W base args ds gs before hval hW hsz (of_decide_eq_true hk)

theorem over : Rows.fnExactAppendEncodeUptoRow.holds Try.pinned (Rows.OpenSpec.upto Rows.fnExactAppendEncodeSpec) :=
  OpenClaim.holds_of_cond 6 Try.f6 rfl rfl rfl rfl rfl rfl rfl ⟨rfl, rfl, rfl, rfl, rfl⟩ rfl rfl rfl rfl rfl (by kernel_rfl) Try.func6 (by kernel_rfl)
    (of_decide_eq_true (by kernel_rfl)) (by unfold Func.isWrapper; first | (rw [if_pos (by decide +kernel)]; kernel_rfl) | (rw [if_neg (by decide +kernel)]; exact ⟨rfl, rfl⟩))
    (fun os started H enc _ F => lifted os started H enc F)

theorem proved : Rows.FnExactAppendEncodeUptoSaid := over
end Go.Proofs.Ytbjhjiffbegakaa.fnExactAppendEncode
