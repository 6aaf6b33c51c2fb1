/-
  FnExactDump: Dump equals the reference, where the arguments hold together at most 1048576 values and letters.
-/
import Derived.Test.YtkhoifaakidfcaaCommon
import Derived.Test.YtkhoifaakidfcaaDumpAll
import Derived.Test.YtkhoifaakidfcaaSpecDump2
namespace Go.Proofs.Ytkhoifaakidfcaa.fnExactDump
open Go.ChangeShapes Go.WideShapes Go.ChangeAt Go.RowKit Go.Lib
open Go.ChangeMaps (open_string shut_string)
set_option linter.unusedVariables false



set_option maxHeartbeats 1000000 in
set_option maxRecDepth 100000 in
theorem walk (A0 : Option Addr) (n0 c0 : Nat) (l0 : List UInt8) (w : World) (h0 : RB w A0 n0 l0) (e0 : n0 ≤ c0) (g0 : c0 ≤ 140737488351232) (hk : c0 ≤ 1048576) :
    Calls Try.prog 10 #[.slice A0 n0 c0] w fun e w' => e = .returned (.bool true) ∧ Below w.heap.size w w' := by
  have HB0 := Lib.hid h0
  clear h0
  go_enter Try.func10, Try.ntmps10
  go_wp2_with fail
  refine (implDump _ _ _ l0 _ HB0.out e0 (by omega) (by omega)).mono ?_
  rintro e w1 ⟨s, rfl, hs, hz, hb⟩
  have HB1 := Lib.hid (HB0.out.below hb)
  go_wp2_with fail
  refine (specDump _ _ _ l0 _ HB1.out e0 (by omega)).mono ?_
  rintro e w2 ⟨L, A, c, rfl, ho, hb2⟩
  have q := conv ho.rb c
  have q2 : (s.toList == Dm.dumpL l0) = true := by rw [hs.out]; simp
  have HB2 := Lib.hid (hb.trans (hb2.mono hb.size))
  clear ho hb hb2
  go_wp2_with fail
  go_ret
  exact ⟨ret_true (by simp), HB2.out⟩

/-- What the walk gives, said of whatever the row reads. -/
theorem contract (H : Type) (enc : TypeId × Value → H) (W : World) (base : Nat) (args : Array Value) (ds gs : List (DataW H)) (before : List MemPlace)
    (hval : ∀ (j : Nat) t v, Try.f10.params[j]? = some t → args[j]? = some v → Value.okWide Try.prog W .any base t v)
    (hW : DataW.Whole enc Try.prog Try.f10.params.toList Rows.fnExactDumpSpec.vars false W args.toList ds gs before)
    (hsz : (DataW.weightsEach Try.prog (Try.f10.params.toList ++ Rows.fnExactDumpSpec.plain.varTypes Try.prog) (ds ++ gs)).all (· ≤ reachBytes) = true) (hk : Rows.uptoBulkAll (ds ++ gs) ≤ 1048576) :
    Calls Try.prog 10 args W fun e W' => ∃ v, e = .returned v ∧ Rows.fnExactDumpSpec.post enc Try.prog Try.f10 false true false false W args v W' := by
  have hW' := hW
  obtain ⟨p, q, hA0, hV, rfl, _, _⟩ := hW
  have hA : DataW.TrodAll enc Try.prog W 0 (fun _ => true) true Try.f10.params.toList args.toList ds p := hA0
  clear hA0
  rw [Try.params10] at hA hval hsz
  obtain ⟨v0, vs0, d0, ds0, p0, q0, hargs, rfl, rfl, h0, r0⟩ := trodAll_cons hA
  obtain ⟨rfl, rfl, rfl⟩ := trodAll_nil r0
  obtain rfl : args = #[v0] := by cases args; simp_all
  obtain ⟨rfl, rfl⟩ := trodVars_none hV
  have k0 := h0
  have lt0 : ∀ x ∈ p0, x.block < W.heap.size := by obtain ⟨m, hm⟩ := k0; exact DataW.trod_lt m _ _ _ hm
  obtain ⟨A0, n0, c0, rfl⟩ := okWide_slice Try.underlying22 (hval 0 22 v0 rfl rfl)
  obtain ⟨l0, h0r, e0, g0, u0⟩ := argB h0 (weigh hsz (j := 0) rfl rfl)
  simp only [List.append_nil, Rows.uptoBulkAll] at hk
  refine (walk A0 n0 c0 l0 W h0r e0 g0 (by omega)).mono fun e W' ⟨he, bel⟩ => ?_
  subst he
  exact ⟨_, rfl, _, _, _, [], _, [], hW', trodAll_mk1 (shut_bool Try.underlying4 _), (trodAll_cons_mk (Below.trod laidOut (by kernel_rfl) (of_decide_eq_true (by kernel_rfl)) k0 bel lt0) trodAll_mk0), rfl, bel.frame _, fun h => by cases h⟩

set_option maxRecDepth 100000 in
theorem lifted (os : Os) (started : os.Started) (H : Type) (enc : TypeId × Value → H) (F : Stop.Interp) :
    ReturnsInHanded {} Try.checked os 10 .any ((Rows.OpenSpec.upto Rows.fnExactDumpSpec).pre6 enc Try.prog Try.f10 Rows.fnExactDumpUptoRow.domain false) (((Rows.OpenSpec.upto Rows.fnExactDumpSpec).at F).post enc Try.prog Try.f10 false true false false) := by
  refine returnsInHanded_of_cond_sized (C := Try.checked) (s := Rows.OpenSpec.upto Rows.fnExactDumpSpec) (k := Rows.uptoSmall) rfl own started (by kernel_rfl) Try.func10
    (OpenSpec.witness (enc := enc) (C := Try.checked) (s := Rows.OpenSpec.upto Rows.fnExactDumpSpec) (k := Rows.uptoSmall) rfl false ⟨#[], #[.slice none 0 0], []⟩ 8 (by kernel_rfl) (by kernel_rfl) (by kernel_rfl)
      (x := ([.nil], [], [])) (by kernel_rfl) rfl (by kernel_rfl)) ?_
  intro W base args ds gs before hval hW _ hk hsz _
  exact contract H enc W base args ds gs before hval hW hsz (of_decide_eq_true hk)

theorem over : Rows.fnExactDumpUptoRow.holds Try.pinned (Rows.OpenSpec.upto Rows.fnExactDumpSpec) :=
  OpenClaim.holds_of_cond 10 Try.f10 rfl rfl rfl rfl rfl rfl rfl ⟨rfl, rfl, rfl, rfl, rfl⟩ rfl rfl rfl rfl rfl (by kernel_rfl) Try.func10 (by kernel_rfl)
    (of_decide_eq_true (by kernel_rfl)) (by unfold Func.isWrapper; first | (rw [if_pos (by decide +kernel)]; kernel_rfl) | (rw [if_neg (by decide +kernel)]; exact ⟨rfl, rfl⟩))
    (fun os started H enc _ F => lifted os started H enc F)

theorem proved : Rows.FnExactDumpUptoSaid := over
end Go.Proofs.Ytkhoifaakidfcaa.fnExactDump
