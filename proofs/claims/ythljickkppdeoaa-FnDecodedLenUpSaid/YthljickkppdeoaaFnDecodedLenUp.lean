/-
  FnDecodedLenUp: hex.DecodedLen does not fall, and rises by 1 for 2 more, for every argument that the form reaches.
-/
import Derived.Test.YthljickkppdeoaaCommon
namespace Go.Proofs.Ythljickkppdeoaa.fnDecodedLenUp
open Go.ChangeShapes Go.WideShapes Go.ChangeAt Go.RowKit Go.Lib
open Go.ChangeMaps (open_string shut_string)
set_option linter.unusedVariables false

theorem tdiv_up (x y : Int) (h : x ≤ y) : x.tdiv 2 ≤ y.tdiv 2 := Int.tdiv_le_tdiv (by omega) h

set_option maxHeartbeats 1000000 in
set_option maxRecDepth 100000 in
theorem walk (x0 : Int) (x1 : Int) (w : World) (b0 : -9223372036854775808 ≤ x0 ∧ x0 ≤ 9223372036854775807) (b1 : -9223372036854775808 ≤ x1 ∧ x1 ≤ 9223372036854775807) :
    Calls Try.prog 3 #[.int .i64 x0, .int .i64 x1] w fun e w' => e = .returned (.bool true) ∧ Below w.heap.size w w' := by
  have hup : x0 ≤ x1 → x0.tdiv 2 ≤ x1.tdiv 2 := tdiv_up x0 x1
  have HU := Lib.hid hup
  clear hup
  by_cases hlt : x1 < x0
  all_goals
    by_cases h0 : x0 < 0
    · go_enter Try.func3, Try.ntmps3
      go_wp2
      go_ret
      refine ⟨ret_true ?_, Below.refl _ _⟩
      first | rfl | (simp; have := HU.out; omega)
    · by_cases h1 : 4611686018427387904 < x0
      · go_enter Try.func3, Try.ntmps3
        go_wp2
        go_ret
        refine ⟨ret_true ?_, Below.refl _ _⟩
        first | rfl | (simp; omega)
      · have h2 : (x0 + 2) / 2 = x0 / 2 + 1 := by omega
        have H2 := Lib.hid h2
        clear h2
        go_enter Try.func3, Try.ntmps3
        go_wp2
        all_goals
          go_ret
          refine ⟨ret_true ?_, Below.refl _ _⟩
          first | rfl | (simp; omega)

/-- What the walk gives, said of whatever the row reads. -/
theorem contract (H : Type) (enc : TypeId × Value → H) (W : World) (base : Nat) (args : Array Value) (ds gs : List (DataW H)) (before : List MemPlace)
    (hval : ∀ (j : Nat) t v, Try.f3.params[j]? = some t → args[j]? = some v → Value.okWide Try.prog W .any base t v)
    (hW : DataW.Whole enc Try.prog Try.f3.params.toList Rows.fnDecodedLenUpSpec.vars false W args.toList ds gs before)
    (hsz : (DataW.weightsEach Try.prog (Try.f3.params.toList ++ Rows.fnDecodedLenUpSpec.plain.varTypes Try.prog) (ds ++ gs)).all (· ≤ reachBytes) = true) :
    Calls Try.prog 3 args W fun e W' => ∃ v, e = .returned v ∧ Rows.fnDecodedLenUpSpec.post enc Try.prog Try.f3 false true false false W args v W' := by
  have hW' := hW
  obtain ⟨p, q, hA0, hV, rfl, _, _⟩ := hW
  have hA : DataW.TrodAll enc Try.prog W 0 (fun _ => true) true Try.f3.params.toList args.toList ds p := hA0
  clear hA0
  rw [Try.params3] at hA hval hsz
  obtain ⟨v0, vs0, d0, ds0, p0, q0, hargs, rfl, rfl, h0, r0⟩ := trodAll_cons hA
  obtain ⟨v1, vs1, d1, ds1, p1, q1, rfl, rfl, rfl, h1, r1⟩ := trodAll_cons r0
  obtain ⟨rfl, rfl, rfl⟩ := trodAll_nil r1
  obtain rfl : args = #[v0, v1] := by cases args; simp_all
  obtain ⟨rfl, rfl⟩ := trodVars_none hV
  have k0 := h0
  have lt0 : ∀ x ∈ p0, x.block < W.heap.size := by obtain ⟨m, hm⟩ := k0; exact DataW.trod_lt m _ _ _ hm
  have k1 := h1
  have lt1 : ∀ x ∈ p1, x.block < W.heap.size := by obtain ⟨m, hm⟩ := k1; exact DataW.trod_lt m _ _ _ hm
  obtain ⟨x0, rfl, rfl, rfl, w0⟩ := open_int Try.underlying3 (hval 0 3 v0 rfl rfl) h0
  obtain ⟨x1, rfl, rfl, rfl, w1⟩ := open_int Try.underlying3 (hval 1 3 v1 rfl rfl) h1
  refine (walk x0 x1 W (int_wf w0) (int_wf w1)).mono fun e W' ⟨he, bel⟩ => ?_
  subst he
  exact ⟨_, rfl, _, _, _, [], _, [], hW', trodAll_mk1 (shut_bool Try.underlying4 _), (trodAll_cons_mk (Below.trod laidOut (by kernel_rfl) (of_decide_eq_true (by kernel_rfl)) k0 bel lt0) (trodAll_cons_mk (Below.trod laidOut (by kernel_rfl) (of_decide_eq_true (by kernel_rfl)) k1 bel lt1) trodAll_mk0)), rfl, bel.frame _, fun h => by cases h⟩

set_option maxRecDepth 100000 in
theorem lifted (os : Os) (started : os.Started) (H : Type) (enc : TypeId × Value → H) :
    ReturnsInHanded {} Try.checked os 3 .any (Rows.fnDecodedLenUpSpec.pre6 enc Try.prog Try.f3 Rows.fnDecodedLenUpRow.domain false) (Rows.fnDecodedLenUpSpec.post enc Try.prog Try.f3 false true false false) := by
  refine returnsInHanded_of_change_sized (C := Try.checked) own started (by kernel_rfl) Try.func3
    (ChangeSpec.witness6 (enc := enc) (C := Try.checked) false ⟨#[], #[.int .i64 0, .int .i64 0], []⟩ 8 (by kernel_rfl) (by kernel_rfl) (by kernel_rfl) (by kernel_rfl)) ?_
  intro W base args ds gs before hval hW _ hsz _
  exact contract H enc W base args ds gs before hval hW hsz

theorem over : Rows.fnDecodedLenUpRow.holds Try.pinned (OpenSpec.ofChange Rows.fnDecodedLenUpSpec) :=
  OpenClaim.holds_of_wide 3 Try.f3 rfl rfl rfl rfl rfl rfl rfl ⟨rfl, rfl, rfl, rfl, rfl⟩ rfl rfl rfl rfl rfl (by kernel_rfl) Try.func3 (by kernel_rfl)
    (of_decide_eq_true (by kernel_rfl)) (by unfold Func.isWrapper; first | (rw [if_pos (by decide +kernel)]; kernel_rfl) | (rw [if_neg (by decide +kernel)]; exact ⟨rfl, rfl⟩))
    (fun os started H enc _ => lifted os started H enc)

theorem proved : Rows.FnDecodedLenUpSaid := over
end Go.Proofs.Ythljickkppdeoaa.fnDecodedLenUp
