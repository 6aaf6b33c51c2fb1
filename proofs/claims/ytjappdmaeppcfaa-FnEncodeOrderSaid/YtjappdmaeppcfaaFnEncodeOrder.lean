/-
  FnEncodeOrder: texts are in the order of their bytes, and equal exactly for equal bytes, for every argument that the form reaches.
-/
import Derived.Test.YtjappdmaeppcfaaCommon
import Derived.Test.YtjappdmaeppcfaaEncode
import Derived.Test.YtjappdmaeppcfaaDrawTwo
namespace Go.Proofs.Ytjappdmaeppcfaa.fnEncodeOrder
open Go.ChangeShapes Go.WideShapes Go.ChangeAt Go.RowKit Go.Lib
open Go.ChangeMaps (open_string shut_string)
set_option linter.unusedVariables false

theorem same_text (a b : List UInt8) : (Hx.encode a == Hx.encode b) = (a == b) := by
  rw [Bool.eq_iff_iff]
  simp only [beq_iff_eq]
  exact ⟨Hex.encode_inj a b, fun h => by rw [h]⟩

set_option maxHeartbeats 1000000 in
set_option maxRecDepth 100000 in
theorem walk (A0 : Option Addr) (n0 c0 : Nat) (l0 : List UInt8) (w : World) (h0 : RB w A0 n0 l0) (e0 : n0 ≤ c0) (g0 : c0 ≤ 140737488351232) :
    Calls Try.prog 5 #[.slice A0 n0 c0] w fun e w' => e = .returned (.bool true) ∧ Below w.heap.size w w' := by
  have HB0 := Lib.hid h0
  clear h0
  go_enter Try.func5, Try.ntmps5
  go_wp2_with fail
  refine (drawTwo _ _ _ l0 _ HB0.out (by omega)).mono ?_
  rintro e w0 ⟨X, Y, a, d, b, d', xs, ys, rfl, ha, hb, had, hd, hbd, hd', hX, hY, hbw⟩
  have HW0 := Lib.hid hbw
  clear hbw
  go_wp2_with fail
  refine (encodeText _ _ _ xs _ hX.out (by omega)).mono ?_
  rintro e w1 ⟨s, rfl, hs, hz, hb1⟩
  have HX1 := Lib.hid (hX.out.below hb1)
  have HY1 := Lib.hid (hY.out.below hb1)
  have HW1 := Lib.hid (HW0.out.trans (hb1.mono HW0.out.size))
  clear hb1
  go_wp2_with fail
  refine (encodeText _ _ _ ys _ HY1.out (by omega)).mono ?_
  rintro e w2 ⟨u, rfl, hu, hzu, hbu⟩
  have q0 := conv (HX1.out.below hbu) d
  have q1 := conv (HY1.out.below hbu) d'
  have q2 : Op.bytesLess s.toList u.toList = Op.bytesLess xs ys := by rw [hs.out, hu.out, Hex.less_encode]
  have q3 : (s.toList == u.toList) = (xs == ys) := by rw [hs.out, hu.out, same_text]
  have HW2 := Lib.hid (HW1.out.trans (hbu.mono HW1.out.size))
  clear hbu
  go_wp2_with (go_at_call 11; go_in)
  go_ret
  exact ⟨ret_true (by simp), HW2.out⟩

/-- What the walk gives, said of whatever the row reads. -/
theorem contract (H : Type) (enc : TypeId × Value → H) (W : World) (base : Nat) (args : Array Value) (ds gs : List (DataW H)) (before : List MemPlace)
    (hval : ∀ (j : Nat) t v, Try.f5.params[j]? = some t → args[j]? = some v → Value.okWide Try.prog W .any base t v)
    (hW : DataW.Whole enc Try.prog Try.f5.params.toList Rows.fnEncodeOrderSpec.vars false W args.toList ds gs before)
    (hsz : (DataW.weightsEach Try.prog (Try.f5.params.toList ++ Rows.fnEncodeOrderSpec.plain.varTypes Try.prog) (ds ++ gs)).all (· ≤ reachBytes) = true) :
    Calls Try.prog 5 args W fun e W' => ∃ v, e = .returned v ∧ Rows.fnEncodeOrderSpec.post enc Try.prog Try.f5 false true false false W args v W' := by
  have hW' := hW
  obtain ⟨p, q, hA0, hV, rfl, _, _⟩ := hW
  have hA : DataW.TrodAll enc Try.prog W 0 (fun _ => true) true Try.f5.params.toList args.toList ds p := hA0
  clear hA0
  rw [Try.params5] at hA hval hsz
  obtain ⟨v0, vs0, d0, ds0, p0, q0, hargs, rfl, rfl, h0, r0⟩ := trodAll_cons hA
  obtain ⟨rfl, rfl, rfl⟩ := trodAll_nil r0
  obtain rfl : args = #[v0] := by cases args; simp_all
  obtain ⟨rfl, rfl⟩ := trodVars_none hV
  have k0 := h0
  have lt0 : ∀ x ∈ p0, x.block < W.heap.size := by obtain ⟨m, hm⟩ := k0; exact DataW.trod_lt m _ _ _ hm
  obtain ⟨A0, n0, c0, rfl⟩ := okWide_slice Try.underlying24 (hval 0 24 v0 rfl rfl)
  obtain ⟨l0, h0r, e0, g0, u0⟩ := argB h0 (weigh hsz (j := 0) rfl rfl)
  refine (walk A0 n0 c0 l0 W h0r e0 g0).mono fun e W' ⟨he, bel⟩ => ?_
  subst he
  exact ⟨_, rfl, _, _, _, [], _, [], hW', trodAll_mk1 (shut_bool Try.underlying4 _), (trodAll_cons_mk (Below.trod laidOut (by kernel_rfl) (of_decide_eq_true (by kernel_rfl)) k0 bel lt0) trodAll_mk0), rfl, bel.frame _, fun h => by cases h⟩

set_option maxRecDepth 100000 in
theorem lifted (os : Os) (started : os.Started) (H : Type) (enc : TypeId × Value → H) :
    ReturnsInHanded {} Try.checked os 5 .any (Rows.fnEncodeOrderSpec.pre6 enc Try.prog Try.f5 Rows.fnEncodeOrderRow.domain false) (Rows.fnEncodeOrderSpec.post enc Try.prog Try.f5 false true false false) := by
  refine returnsInHanded_of_change_sized (C := Try.checked) own started (by kernel_rfl) Try.func5
    (ChangeSpec.witness6 (enc := enc) (C := Try.checked) false ⟨#[], #[.slice none 0 0], []⟩ 8 (by kernel_rfl) (by kernel_rfl) (by kernel_rfl) (by kernel_rfl)) ?_
  intro W base args ds gs before hval hW _ hsz _
  exact contract H enc W base args ds gs before hval hW hsz

theorem over : Rows.fnEncodeOrderRow.holds Try.pinned (OpenSpec.ofChange Rows.fnEncodeOrderSpec) :=
  OpenClaim.holds_of_wide 5 Try.f5 rfl rfl rfl rfl rfl rfl rfl ⟨rfl, rfl, rfl, rfl, rfl⟩ rfl rfl rfl rfl rfl (by kernel_rfl) Try.func5 (by kernel_rfl)
    (of_decide_eq_true (by kernel_rfl)) (by unfold Func.isWrapper; first | (rw [if_pos (by decide +kernel)]; kernel_rfl) | (rw [if_neg (by decide +kernel)]; exact ⟨rfl, rfl⟩))
    (fun os started H enc _ => lifted os started H enc)

theorem proved : Rows.FnEncodeOrderSaid := over
end Go.Proofs.Ytjappdmaeppcfaa.fnEncodeOrder
