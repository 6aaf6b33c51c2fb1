/-
  FnExactDumpParts: a dump that is written part by part is that of all parts together, where the arguments hold together at most 1048576 values and letters.
-/
import Derived.Test.YtkhoifaakidfcaaCommon
import Derived.Test.YtkhoifaakidfcaaDumpAll
import Derived.Test.YtkhoifaakidfcaaSpecDump2
namespace Go.Proofs.Ytkhoifaakidfcaa.fnExactDumpParts
open Go.ChangeShapes Go.WideShapes Go.ChangeAt Go.RowKit Go.Lib
open Go.ChangeMaps (open_string shut_string)
set_option linter.unusedVariables false



set_option maxHeartbeats 1000000 in
set_option maxRecDepth 100000 in
theorem walk (A0 : Option Addr) (n0 c0 : Nat) (l0 : List (List UInt8)) (w : World) (h0 : RP w A0 n0 l0) (e0 : n0 ≤ c0) (g0 : c0 ≤ 140737488351232) (hk : l0.flatten.length + c0 ≤ 1048576) :
    Calls Try.prog 4 #[.slice A0 n0 c0] w fun e w' => e = .returned (.bool true) ∧ Below w.heap.size w w' := by
  have HP0 := Lib.hid h0
  clear h0
  go_enter Try.func4, Try.ntmps4
  go_wp2_with fail
  refine (dumpParts _ _ _ l0 _ HP0.out (by omega) (by omega)).mono ?_
  rintro e w1 ⟨s, rfl, hs, hz, hb⟩
  have HP1 := Lib.hid (HP0.out.below hb)
  go_wp2_with fail
  refine (specJoined _ _ _ l0 _ HP1.out (by omega) (by omega)).mono ?_
  rintro e w2 ⟨A2, d2, rfl, ho2, hb2⟩
  have HO2 := Lib.hid ho2
  have hle := ho2.le
  have HB2 := Lib.hid (hb.trans (hb2.mono hb.size))
  obtain ⟨m, hm⟩ : ∃ m, l0.flatten.length = m := ⟨_, rfl⟩
  have HM := Lib.hid hm
  have hmb : m ≤ 1048576 := by omega
  rw [hm] at HO2 hle ⊢
  clear ho2 hb2 hb hm
  go_wp2_with fail
  refine (specDump _ _ _ l0.flatten _ HO2.out.rb hle.1 (by omega)).mono ?_
  rintro e w3 ⟨L, A3, d3, rfl, ho3, hb3⟩
  have q := conv ho3.rb d3
  have q2 : (s.toList == Dm.dumpL l0.flatten) = true := by rw [hs.out]; simp
  have HB3 := Lib.hid (HB2.out.trans (hb3.mono HB2.out.size))
  clear ho3 hb3
  go_wp2_with fail
  go_ret
  exact ⟨ret_true (by simp), HB3.out⟩

/-- What the walk gives, said of whatever the row reads. -/
theorem contract (H : Type) (enc : TypeId × Value → H) (W : World) (base : Nat) (args : Array Value) (ds gs : List (DataW H)) (before : List MemPlace)
    (hval : ∀ (j : Nat) t v, Try.f4.params[j]? = some t → args[j]? = some v → Value.okWide Try.prog W .any base t v)
    (hW : DataW.Whole enc Try.prog Try.f4.params.toList Rows.fnExactDumpPartsSpec.vars false W args.toList ds gs before)
    (hsz : (DataW.weightsEach Try.prog (Try.f4.params.toList ++ Rows.fnExactDumpPartsSpec.plain.varTypes Try.prog) (ds ++ gs)).all (· ≤ reachBytes) = true) (hk : Rows.uptoBulkAll (ds ++ gs) ≤ 1048576) :
    Calls Try.prog 4 args W fun e W' => ∃ v, e = .returned v ∧ Rows.fnExactDumpPartsSpec.post enc Try.prog Try.f4 false true false false W args v W' := by
  have hW' := hW
  obtain ⟨p, q, hA0, hV, rfl, _, _⟩ := hW
  have hA : DataW.TrodAll enc Try.prog W 0 (fun _ => true) true Try.f4.params.toList args.toList ds p := hA0
  clear hA0
  rw [Try.params4] at hA hval hsz
  obtain ⟨v0, vs0, d0, ds0, p0, q0, hargs, rfl, rfl, h0, r0⟩ := trodAll_cons hA
  obtain ⟨rfl, rfl, rfl⟩ := trodAll_nil r0
  obtain rfl : args = #[v0] := by cases args; simp_all
  obtain ⟨rfl, rfl⟩ := trodVars_none hV
  have k0 := h0
  have lt0 : ∀ x ∈ p0, x.block < W.heap.size := by obtain ⟨m, hm⟩ := k0; exact DataW.trod_lt m _ _ _ hm
  obtain ⟨A0, n0, c0, rfl⟩ := okWide_slice Try.underlying25 (hval 0 25 v0 rfl rfl)
  obtain ⟨l0, h0r, e0, g0, u0⟩ := argP h0 (weigh hsz (j := 0) rfl rfl)
  simp only [List.append_nil, Rows.uptoBulkAll] at hk
  refine (walk A0 n0 c0 l0 W h0r e0 g0 (by omega)).mono fun e W' ⟨he, bel⟩ => ?_
  subst he
  exact ⟨_, rfl, _, _, _, [], _, [], hW', trodAll_mk1 (shut_bool Try.underlying4 _), (trodAll_cons_mk (Below.trod laidOut (by kernel_rfl) (of_decide_eq_true (by kernel_rfl)) k0 bel lt0) trodAll_mk0), rfl, bel.frame _, fun h => by cases h⟩

set_option maxRecDepth 100000 in
theorem lifted (os : Os) (started : os.Started) (H : Type) (enc : TypeId × Value → H) (F : Stop.Interp) :
    ReturnsInHanded {} Try.checked os 4 .any ((Rows.OpenSpec.upto Rows.fnExactDumpPartsSpec).pre6 enc Try.prog Try.f4 Rows.fnExactDumpPartsUptoRow.domain false) (((Rows.OpenSpec.upto Rows.fnExactDumpPartsSpec).at F).post enc Try.prog Try.f4 false true false false) := by
  refine returnsInHanded_of_cond_sized (C := Try.checked) (s := Rows.OpenSpec.upto Rows.fnExactDumpPartsSpec) (k := Rows.uptoSmall) rfl own started (by kernel_rfl) Try.func4
    (OpenSpec.witness (enc := enc) (C := Try.checked) (s := Rows.OpenSpec.upto Rows.fnExactDumpPartsSpec) (k := Rows.uptoSmall) rfl false ⟨#[], #[.slice none 0 0], []⟩ 8 (by kernel_rfl) (by kernel_rfl) (by kernel_rfl)
      (x := ([.nil], [], [])) (by kernel_rfl) rfl (by kernel_rfl)) ?_
  intro W base args ds gs before hval hW _ hk hsz _
  exact contract H enc W base args ds gs before hval hW hsz (of_decide_eq_true hk)

theorem over : Rows.fnExactDumpPartsUptoRow.holds Try.pinned (Rows.OpenSpec.upto Rows.fnExactDumpPartsSpec) :=
  OpenClaim.holds_of_cond 4 Try.f4 rfl rfl rfl rfl rfl rfl rfl ⟨rfl, rfl, rfl, rfl, rfl⟩ rfl rfl rfl rfl rfl (by kernel_rfl) Try.func4 (by kernel_rfl)
    (of_decide_eq_true (by kernel_rfl)) (by unfold Func.isWrapper; first | (rw [if_pos (by decide +kernel)]; kernel_rfl) | (rw [if_neg (by decide +kernel)]; exact ⟨rfl, rfl⟩))
    (fun os started H enc _ F => lifted os started H enc F)

theorem proved : Rows.FnExactDumpPartsUptoSaid := over
end Go.Proofs.Ytkhoifaakidfcaa.fnExactDumpParts
