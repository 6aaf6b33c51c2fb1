/-
  FnDumpRoads: parts written to a dumper and the dump of all of them agree, where the arguments hold together at most 1048576 values and letters.
-/
import Derived.Test.YtkhoifaakidfcaaCommon
import Derived.Test.YtkhoifaakidfcaaDumpAll
import Derived.Test.YtkhoifaakidfcaaDumpPure2
namespace Go.Proofs.Ytkhoifaakidfcaa.fnDumpRoads
open Go.ChangeShapes Go.WideShapes Go.ChangeAt Go.RowKit Go.Lib
open Go.ChangeMaps (open_string shut_string)
set_option linter.unusedVariables false



set_option maxHeartbeats 1000000 in
set_option maxRecDepth 100000 in
theorem walk (A0 : Option Addr) (n0 c0 : Nat) (l0 : List (List UInt8)) (w : World) (h0 : RP w A0 n0 l0) (e0 : n0 ≤ c0) (g0 : c0 ≤ 140737488351232) (hk : l0.flatten.length + c0 ≤ 1048576) :
    Calls Try.prog 12 #[.slice A0 n0 c0] w fun e w' => e = .returned (.bool true) ∧ Below w.heap.size w w' := by
  have HP0 := Lib.hid h0
  clear h0
  obtain ⟨m, hm⟩ : ∃ m, l0.flatten.length = m := ⟨_, rfl⟩
  have HM := Lib.hid hm
  have hmb : m ≤ 1048576 := by omega
  clear hm
  go_enter Try.func12, Try.ntmps12
  go_wp2_with fail
  refine (dumpParts _ _ _ l0 _ HP0.out (by omega) (by omega)).mono ?_
  rintro e w1 ⟨s, rfl, hs, hz, hb⟩
  have HP1 := Lib.hid (HP0.out.below hb)
  have HB1 := Lib.hid hb
  have q1 : (s.toList.isEmpty) = ((m : Int) == 0) := by
    rw [hs.out, Bool.eq_iff_iff]
    rw [List.isEmpty_iff, Dm.dump_nil_iff, beq_iff_eq, ← HM.out]
    exact ⟨fun h => by rw [h]; rfl, fun h => List.eq_nil_of_length_eq_zero (by omega)⟩
  clear hb
  go_wp2_with fail
  refine (specJoined _ _ _ l0 _ HP1.out (by omega) (by omega)).mono ?_
  rintro e w2 ⟨A2, d2, rfl, ho2, hb2⟩
  have HB2 := Lib.hid (HB1.out.trans (hb2.mono HB1.out.size))
  have HP2 := Lib.hid (HP0.out.below HB2.out)
  clear ho2 hb2
  rw [HM.out]
  go_wp2_with fail
  refine (dumpParts _ _ _ l0 _ HP2.out (by omega) (by omega)).mono ?_
  rintro e w3 ⟨s3, rfl, hs3, hz3, hb3⟩
  have HB3 := Lib.hid (HB2.out.trans (hb3.mono HB2.out.size))
  have HP3 := Lib.hid (HP0.out.below HB3.out)
  clear hb3
  go_wp2_with fail
  refine (specJoined _ _ _ l0 _ HP3.out (by omega) (by omega)).mono ?_
  rintro e w4 ⟨A4, d4, rfl, ho4, hb4⟩
  have HO4 := Lib.hid ho4
  have hle := ho4.le
  have HB4 := Lib.hid (HB3.out.trans (hb4.mono HB3.out.size))
  clear ho4 hb4
  rw [HM.out] at HO4 hle ⊢
  simp only [maxLen] at hle
  go_wp2_with fail
  refine (implDump _ _ _ l0.flatten _ HO4.out.rb (by omega) (by omega) (by omega)).mono ?_
  rintro e w5 ⟨s5, rfl, hs5, hz5, hb5⟩
  have HB5 := Lib.hid (HB4.out.trans (hb5.mono HB4.out.size))
  have q2 : (s3.toList == s5.toList) = true := by rw [hs3.out, hs5.out]; simp
  clear hb5
  go_wp2_with fail
  go_ret
  exact ⟨ret_true (by simp), HB5.out⟩

/-- What the walk gives, said of whatever the row reads. -/
theorem contract (H : Type) (enc : TypeId × Value → H) (W : World) (base : Nat) (args : Array Value) (ds gs : List (DataW H)) (before : List MemPlace)
    (hval : ∀ (j : Nat) t v, Try.f12.params[j]? = some t → args[j]? = some v → Value.okWide Try.prog W .any base t v)
    (hW : DataW.Whole enc Try.prog Try.f12.params.toList Rows.fnDumpRoadsSpec.vars false W args.toList ds gs before)
    (hsz : (DataW.weightsEach Try.prog (Try.f12.params.toList ++ Rows.fnDumpRoadsSpec.plain.varTypes Try.prog) (ds ++ gs)).all (· ≤ reachBytes) = true) (hk : Rows.uptoBulkAll (ds ++ gs) ≤ 1048576) :
    Calls Try.prog 12 args W fun e W' => ∃ v, e = .returned v ∧ Rows.fnDumpRoadsSpec.post enc Try.prog Try.f12 false true false false W args v W' := by
  have hW' := hW
  obtain ⟨p, q, hA0, hV, rfl, _, _⟩ := hW
  have hA : DataW.TrodAll enc Try.prog W 0 (fun _ => true) true Try.f12.params.toList args.toList ds p := hA0
  clear hA0
  rw [Try.params12] at hA hval hsz
  obtain ⟨v0, vs0, d0, ds0, p0, q0, hargs, rfl, rfl, h0, r0⟩ := trodAll_cons hA
  obtain ⟨rfl, rfl, rfl⟩ := trodAll_nil r0
  obtain rfl : args = #[v0] := by cases args; simp_all
  obtain ⟨rfl, rfl⟩ := trodVars_none hV
  have k0 := h0
  have lt0 : ∀ x ∈ p0, x.block < W.heap.size := by obtain ⟨m, hm⟩ := k0; exact DataW.trod_lt m _ _ _ hm
  obtain ⟨A0, n0, c0, rfl⟩ := okWide_slice Try.underlying25 (hval 0 25 v0 rfl rfl)
  obtain ⟨l0, h0r, e0, g0, u0⟩ := argP h0 (weigh hsz (j := 0) rfl rfl)
  simp only [List.append_nil, Rows.uptoBulkAll] at hk
  refine (walk A0 n0 c0 l0 W h0r e0 g0 (by omega)).mono fun e W' ⟨he, bel⟩ => ?_
  subst he
  exact ⟨_, rfl, _, _, _, [], _, [], hW', trodAll_mk1 (shut_bool Try.underlying4 _), (trodAll_cons_mk (Below.trod laidOut (by kernel_rfl) (of_decide_eq_true (by kernel_rfl)) k0 bel lt0) trodAll_mk0), rfl, bel.frame _, fun h => by cases h⟩

set_option maxRecDepth 100000 in
theorem lifted (os : Os) (started : os.Started) (H : Type) (enc : TypeId × Value → H) (F : Stop.Interp) :
    ReturnsInHanded {} Try.checked os 12 .any ((Rows.OpenSpec.upto Rows.fnDumpRoadsSpec).pre6 enc Try.prog Try.f12 Rows.fnDumpRoadsUptoRow.domain false) (((Rows.OpenSpec.upto Rows.fnDumpRoadsSpec).at F).post enc Try.prog Try.f12 false true false false) := by
  refine returnsInHanded_of_cond_sized (C := Try.checked) (s := Rows.OpenSpec.upto Rows.fnDumpRoadsSpec) (k := Rows.uptoSmall) rfl own started (by kernel_rfl) Try.func12
    (OpenSpec.witness (enc := enc) (C := Try.checked) (s := Rows.OpenSpec.upto Rows.fnDumpRoadsSpec) (k := Rows.uptoSmall) rfl false ⟨#[], #[.slice none 0 0], []⟩ 8 (by kernel_rfl) (by kernel_rfl) (by kernel_rfl)
      (x := ([.nil], [], [])) (by kernel_rfl) rfl (by kernel_rfl)) ?_
  intro W base args ds gs before hval hW _ hk hsz _
  exact contract H enc W base args ds gs before hval hW hsz (of_decide_eq_true hk)

theorem over : Rows.fnDumpRoadsUptoRow.holds Try.pinned (Rows.OpenSpec.upto Rows.fnDumpRoadsSpec) :=
  OpenClaim.holds_of_cond 12 Try.f12 rfl rfl rfl rfl rfl rfl rfl ⟨rfl, rfl, rfl, rfl, rfl⟩ rfl rfl rfl rfl rfl (by kernel_rfl) Try.func12 (by kernel_rfl)
    (of_decide_eq_true (by kernel_rfl)) (by unfold Func.isWrapper; first | (rw [if_pos (by decide +kernel)]; kernel_rfl) | (rw [if_neg (by decide +kernel)]; exact ⟨rfl, rfl⟩))
    (fun os started H enc _ F => lifted os started H enc F)

theorem proved : Rows.FnDumpRoadsUptoSaid := over
end Go.Proofs.Ytkhoifaakidfcaa.fnDumpRoads
