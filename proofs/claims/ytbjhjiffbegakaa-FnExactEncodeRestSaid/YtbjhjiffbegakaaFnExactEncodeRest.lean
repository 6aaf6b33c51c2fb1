/-
  FnExactEncodeRest: Encode leaves what is behind, for every argument that the form reaches.
-/
import Derived.Test.YtbjhjiffbegakaaCommon
import Derived.Test.YtbjhjiffbegakaaSame
import Derived.Test.YtbjhjiffbegakaaEncInto
import Derived.Test.YtbjhjiffbegakaaCut
namespace Go.Proofs.Ytbjhjiffbegakaa.fnExactEncodeRest
open Go.ChangeShapes Go.WideShapes Go.ChangeAt Go.RowKit Go.Lib
open Go.ChangeMaps (open_string shut_string)
set_option linter.unusedVariables false



set_option maxHeartbeats 1000000 in
set_option maxRecDepth 100000 in
theorem walk (A0 : Option Addr) (n0 c0 : Nat) (l0 : List UInt8) (A1 : Option Addr) (n1 c1 : Nat) (l1 : List UInt8) (w : World) (h0 : RB w A0 n0 l0) (e0 : n0 ≤ c0) (g0 : c0 ≤ 140737488351232) (h1 : RB w A1 n1 l1) (e1 : n1 ≤ c1) (g1 : c1 ≤ 140737488351232) :
    Calls Try.prog 4 #[.slice A0 n0 c0, .slice A1 n1 c1] w fun e w' => e = .returned (.bool true) ∧ Below w.heap.size w w' := by
  have HB0 := Lib.hid h0
  have HB1 := Lib.hid h1
  clear h0 h1
  go_enter Try.func4, Try.ntmps4
  by_cases hroom : (n1 : Int) ≤ (n0 : Int) / 2
  · go_wp2_with fail
    refine (implEncode _ _ _ l0 _ _ _ l1 _ HB0.out HB1.out (by omega) (by omega)).mono ?_
    rintro e w1 ⟨A, c, rfl, hc1, hc2, hR, hb1⟩
    have HE1 := Lib.hid hb1
    have HR1 := Lib.hid ((HB0.out.below hb1).from_ (k := 2 * n1) (c := c0) (by omega) (by omega))
    have HR2 := Lib.hid (hR.out.from_ (k := 2 * n1) (c := c) (by omega) (by omega))
    have hl : Hid ((Hx.encode l1 ++ l0.drop (2 * n1)).drop (2 * n1) = l0.drop (2 * n1)) := by
      have : (Hx.encode l1).length = 2 * n1 := by rw [Hx.encode_length, HB1.out.1]
      unfold Hid
      rw [← this, List.drop_left']
      rfl
    rw [hl.out] at HR2
    clear hb1
    obtain ⟨k, hk⟩ : ∃ k : Nat, k = 2 * n1 := ⟨_, rfl⟩
    have p1 : IntKind.i64.wrap (2 * (n1 : Int)) = (k : Int) := by rw [IntWalk.i64_in _ (by omega)]; omega
    have hs := run_from A n0 c (k : Int) (by omega) (by omega)
    have hs' := run_from A0 n0 c0 (k : Int) (by omega) (by omega)
    rw [← hk] at HR1 HR2
    simp only [Int.toNat_natCast] at hs hs'
    generalize cutA A c k = X at hs HR2
    generalize cutA A0 c0 k = Y at hs' HR1
    clear hk hl hR
    go_wp2_with fail
    go_quiet ((exact (same_any X (n0 - k) (c - k) (l0.drop k) Y (n0 - k) (c0 - k) (l0.drop k) _ (HR2.out.drewN _) (HR1.out.drewN _)).mono fun e w6 h => ⟨h.1, _, h.2.symm⟩))
    go_wp2_with fail
    go_ret
    exact ⟨ret_true (by simp), below_drewN HE1.out _⟩
  · go_wp2_with fail
    go_ret
    exact ⟨ret_true rfl, Below.refl _ _⟩

/-- What the walk gives, said of whatever the row reads. -/
theorem contract (H : Type) (enc : TypeId × Value → H) (W : World) (base : Nat) (args : Array Value) (ds gs : List (DataW H)) (before : List MemPlace)
    (hval : ∀ (j : Nat) t v, Try.f4.params[j]? = some t → args[j]? = some v → Value.okWide Try.prog W .any base t v)
    (hW : DataW.Whole enc Try.prog Try.f4.params.toList Rows.fnExactEncodeRestSpec.vars false W args.toList ds gs before)
    (hsz : (DataW.weightsEach Try.prog (Try.f4.params.toList ++ Rows.fnExactEncodeRestSpec.plain.varTypes Try.prog) (ds ++ gs)).all (· ≤ reachBytes) = true) :
    Calls Try.prog 4 args W fun e W' => ∃ v, e = .returned v ∧ Rows.fnExactEncodeRestSpec.post enc Try.prog Try.f4 false true false false W args v W' := by
  have hW' := hW
  obtain ⟨p, q, hA0, hV, rfl, _, _⟩ := hW
  have hA : DataW.TrodAll enc Try.prog W 0 (fun _ => true) true Try.f4.params.toList args.toList ds p := hA0
  clear hA0
  rw [Try.params4] at hA hval hsz
  obtain ⟨v0, vs0, d0, ds0, p0, q0, hargs, rfl, rfl, h0, r0⟩ := trodAll_cons hA
  obtain ⟨v1, vs1, d1, ds1, p1, q1, rfl, rfl, rfl, h1, r1⟩ := trodAll_cons r0
  obtain ⟨rfl, rfl, rfl⟩ := trodAll_nil r1
  obtain rfl : args = #[v0, v1] := by cases args; simp_all
  obtain ⟨rfl, rfl⟩ := trodVars_none hV
  have k0 := h0
  have lt0 : ∀ x ∈ p0, x.block < W.heap.size := by obtain ⟨m, hm⟩ := k0; exact DataW.trod_lt m _ _ _ hm
  have k1 := h1
  have lt1 : ∀ x ∈ p1, x.block < W.heap.size := by obtain ⟨m, hm⟩ := k1; exact DataW.trod_lt m _ _ _ hm
  obtain ⟨A0, n0, c0, rfl⟩ := okWide_slice Try.underlying22 (hval 0 22 v0 rfl rfl)
  obtain ⟨l0, h0r, e0, g0, u0⟩ := argB h0 (weigh hsz (j := 0) rfl rfl)
  obtain ⟨A1, n1, c1, rfl⟩ := okWide_slice Try.underlying22 (hval 1 22 v1 rfl rfl)
  obtain ⟨l1, h1r, e1, g1, u1⟩ := argB h1 (weigh hsz (j := 1) rfl rfl)
  refine (walk A0 n0 c0 l0 A1 n1 c1 l1 W h0r e0 g0 h1r e1 g1).mono fun e W' ⟨he, bel⟩ => ?_
  subst he
  exact ⟨_, rfl, _, _, _, [], _, [], hW', trodAll_mk1 (shut_bool Try.underlying4 _), (trodAll_cons_mk (Below.trod laidOut (by kernel_rfl) (of_decide_eq_true (by kernel_rfl)) k0 bel lt0) (trodAll_cons_mk (Below.trod laidOut (by kernel_rfl) (of_decide_eq_true (by kernel_rfl)) k1 bel lt1) trodAll_mk0)), rfl, bel.frame _, fun h => by cases h⟩

set_option maxRecDepth 100000 in
theorem lifted (os : Os) (started : os.Started) (H : Type) (enc : TypeId × Value → H) :
    ReturnsInHanded {} Try.checked os 4 .any (Rows.fnExactEncodeRestSpec.pre6 enc Try.prog Try.f4 Rows.fnExactEncodeRestRow.domain false) (Rows.fnExactEncodeRestSpec.post enc Try.prog Try.f4 false true false false) := by
  refine returnsInHanded_of_change_sized (C := Try.checked) own started (by kernel_rfl) Try.func4
    (ChangeSpec.witness6 (enc := enc) (C := Try.checked) false ⟨#[], #[.slice none 0 0, .slice none 0 0], []⟩ 8 (by kernel_rfl) (by kernel_rfl) (by kernel_rfl) (by kernel_rfl)) ?_
  intro W base args ds gs before hval hW _ hsz _
  exact contract H enc W base args ds gs before hval hW hsz

theorem over : Rows.fnExactEncodeRestRow.holds Try.pinned (OpenSpec.ofChange Rows.fnExactEncodeRestSpec) :=
  OpenClaim.holds_of_wide 4 Try.f4 rfl rfl rfl rfl rfl rfl rfl ⟨rfl, rfl, rfl, rfl, rfl⟩ rfl rfl rfl rfl rfl (by kernel_rfl) Try.func4 (by kernel_rfl)
    (of_decide_eq_true (by kernel_rfl)) (by unfold Func.isWrapper; first | (rw [if_pos (by decide +kernel)]; kernel_rfl) | (rw [if_neg (by decide +kernel)]; exact ⟨rfl, rfl⟩))
    (fun os started H enc _ => lifted os started H enc)

theorem proved : Rows.FnExactEncodeRestSaid := over
end Go.Proofs.Ytbjhjiffbegakaa.fnExactEncodeRest
