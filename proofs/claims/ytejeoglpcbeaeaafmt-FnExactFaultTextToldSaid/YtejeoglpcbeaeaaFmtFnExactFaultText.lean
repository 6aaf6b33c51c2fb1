/-
  FnExactFaultText: there is a text of an error exactly where the reference has a fault, for every argument that the form reaches; encoding/hex.ErrLength starts as the program lays it.
-/
import Derived.Test.YtejeoglpcbeaeaaFmtCommon
import Derived.Test.YtejeoglpcbeaeaaFmtFault
import Derived.Test.YtejeoglpcbeaeaaFmtSpecDec2
import Derived.Test.YtejeoglpcbeaeaaFmtRegion
import Derived.Test.YtejeoglpcbeaeaaFmtLaid
import Derived.Test.YtejeoglpcbeaeaaFmtFault
import Derived.Stop.JoinedTold
import Derived.Stop.JoinedAt
import Derived.Deep.DeepWitnessRef
import Derived.SevenTiedAt
import Derived.ProofKit
namespace Go.Proofs.YtejeoglpcbeaeaaFmt.fnExactFaultText
open Go.ChangeShapes Go.WideShapes Go.ChangeAt Go.RowKit Go.Lib
open Go.ChangeMaps (open_string shut_string)
set_option linter.unusedVariables false

theorem text_iff (o : Hx.Out) (t : ByteArray) (h : t.data.toList = faultOf o) : t.toList.isEmpty = !(Hex.bad o) := by
  rw [Go.ByteArray.toList_eq, h]
  cases o <;> simp [faultOf, errText, innerText, Hex.bad]

set_option maxHeartbeats 1000000 in
set_option maxRecDepth 100000 in
theorem walk (s0 : ByteArray) (w : World) (g0 : s0.size ≤ 140737488351232) (hE : ErrIs w) (F : Go.Stop.Interp) (hF : F.told.answers w.tape) :
    Calls Tryf.prog 3 #[.string s0] w fun e w' => e = .returned (.bool true) ∧ Below w.heap.size w w' := by
  obtain ⟨ea, hE⟩ := hE
  have HE := Lib.hid hE
  have HF := Lib.hid hF
  clear hE hF
  have hcv := fun W => Lib.run_convert_string_bytes (P := Tryf.prog) W 9 22 5 s0 Tryf.underlying9 Tryf.underlying22 Tryf.underlying5
  go_enter Tryf.func3, Tryf.ntmps3
  go_wp2_with fail
  have hbt := Lib.hid (below_bytesWorld w s0)
  have hrt := Lib.hid (RB.ofText w s0)
  refine (specDecode _ _ _ _ _ hrt.out (by omega)).mono ?_
  rintro e w2 ⟨X, m, d, d0, d1, d2, rfl, gr, gm, gd1, gd2, gb0, gb1, gb2, gbw⟩
  have hb2 : Below w.heap.size w w2 := hbt.out.trans (gbw.mono hbt.out.size)
  clear gbw hcv
  have hB := Lib.hid (hb2.alloc hb2.size (.cells #[.bool d0, .bool d1, .int .u8 d2] 24))
  have HC : Hid ((w2.alloc (.cells #[.bool d0, .bool d1, .int .u8 d2] 24)).cell? ⟨w2.heap.size, 0, none⟩ = some (.bool d0)) := by unfold Hid; simp [go_sem]
  go_wp2_with fail
  generalize hW : w2.alloc (.cells #[.bool d0, .bool d1, .int .u8 d2] 24) = W1 at hB HC ⊢
  have hsE : W1.heap.size = w2.heap.size + 1 := by rw [← hW]; simp
  have hsz1 : w2.heap.size < W1.heap.size := by omega
  clear hW
  have HE1 := Lib.hid (HE.out.below hB.out)
  have HF1 : Hid (F.told.answers W1.tape) := by unfold Hid; rw [hB.out.tape]; exact HF.out
  have hc1 := HC.out
  clear hb2
  go_region_with (go_at_call 6; refine (faultText F s0 _ ea (HE1.out.below (by repeat (first | exact Below.refl _ _ | assumption | refine Below.drew ?_ | refine below_up ?_))) (by exact HF1.out) (by omega)).mono ?_; rintro e w4 ⟨t, rfl, ht, hb4⟩; have hB4 : Below W1.heap.size W1 w4 := below_on (by repeat (first | exact Below.refl _ _ | assumption | refine Below.drew ?_ | refine below_up ?_)) hb4; have hc4 := (hB4.cell (p := ⟨w2.heap.size, 0, none⟩) hsz1).trans hc1; have hsz4 := hB4.size; have hH := Lib.hid ht; clear ht)
  all_goals
    have hq : ((!t.toList.isEmpty) == d0) = true := by rw [text_iff _ _ hH.out, gb0.out]; simp
    go_wp2_with fail
    go_ret
    exact ⟨ret_true (by simpa using hq), hB.out.trans (hB4.mono hB.out.size)⟩

/-- What the walk gives, said of whatever the row reads. -/
theorem contract (H : Type) (enc : TypeId × Value → H) (W : World) (base : Nat) (args : Array Value) (ds gs : List (DataW H)) (before : List MemPlace)
    (hval : ∀ (j : Nat) t v, Tryf.f3.params[j]? = some t → args[j]? = some v → Value.okWide Tryf.prog W .any base t v)
    (hW : DataW.Whole enc Tryf.prog Tryf.f3.params.toList Rows.fnExactFaultTextSpec.vars false W args.toList ds gs before)
    (hsz : (DataW.weightsEach Tryf.prog (Tryf.f3.params.toList ++ Rows.fnExactFaultTextSpec.plain.varTypes Tryf.prog) (ds ++ gs)).all (· ≤ reachBytes) = true) (hE : ErrIs W) (F : Go.Stop.Interp) (hF : F.told.answers W.tape) :
    Calls Tryf.prog 3 args W fun e W' => ∃ v, e = .returned v ∧ Rows.fnExactFaultTextSpec.post enc Tryf.prog Tryf.f3 false true false false W args v W' := by
  have hW' := hW
  obtain ⟨p, q, hA0, hV, rfl, _, _⟩ := hW
  have hA : DataW.TrodAll enc Tryf.prog W 0 (fun _ => true) true Tryf.f3.params.toList args.toList ds p := hA0
  clear hA0
  rw [Tryf.params3] at hA hval hsz
  obtain ⟨v0, vs0, d0, ds0, p0, q0, hargs, rfl, rfl, h0, r0⟩ := trodAll_cons hA
  obtain ⟨rfl, rfl, rfl⟩ := trodAll_nil r0
  obtain rfl : args = #[v0] := by cases args; simp_all
  obtain ⟨rfl, rfl⟩ := trodVars_none hV
  have k0 := h0
  have lt0 : ∀ x ∈ p0, x.block < W.heap.size := by obtain ⟨m, hm⟩ := k0; exact DataW.trod_lt m _ _ _ hm
  obtain ⟨s0, rfl, rfl, rfl, w0⟩ := open_string Tryf.underlying9 (hval 0 9 v0 rfl rfl) h0
  obtain ⟨g0, u0⟩ := argS (H := H) (weigh hsz (j := 0) rfl rfl)
  refine (walk s0 W g0 hE F hF).mono fun e W' ⟨he, bel⟩ => ?_
  subst he
  exact ⟨_, rfl, _, _, _, [], _, [], hW', trodAll_mk1 (shut_bool Tryf.underlying4 _), (trodAll_cons_mk (Below.trod laidOut (by kernel_rfl) (of_decide_eq_true (by kernel_rfl)) k0 bel lt0) trodAll_mk0), rfl, bel.frame _, fun h => by cases h⟩

theorem reads (os : Os) {H : Type} (enc : TypeId × Value → H) : ∃ places, DataW.whole enc Tryf.prog ((World.doorLaid Tryf.prog 400 os).forCall (fun _ _ => 0) ⟨#[], #[.string ⟨#[]⟩], []⟩).memory Tryf.f3.params.toList Rows.fnExactFaultTextSpec.vars false (#[.string ⟨#[]⟩] : Array Value).toList 8 = some ([.lit (.string [])], [], places) :=
  ⟨[], by kernel_rfl⟩

set_option maxRecDepth 100000 in
theorem lifted (os : Os) (started : os.Started) (H : Type) (enc : TypeId × Value → H) :
    ReturnsInTold none {} Tryf.checked os 3 .any Input.okWide ((OpenSpec.ofChange Rows.fnExactFaultTextSpec).preRow enc Tryf.prog Tryf.f3 Rows.fnExactFaultTextRow.domain false Rows.fnExactFaultTextRow.laid) (fun F => ((OpenSpec.ofChange Rows.fnExactFaultTextSpec).at F).post enc Tryf.prog Tryf.f3 false true false false) (aloneAtReturn Tryf.prog) nothingAlways := by
  obtain ⟨places, hx⟩ := reads os enc
  refine returnsInTold_of_row (C := Tryf.checked) (s := OpenSpec.ofChange Rows.fnExactFaultTextSpec) (by kernel_rfl) own started (by kernel_rfl) Tryf.func3
    (OpenSpec.witness_stopped_atRef (enc := enc) (C := Tryf.checked) false (World.doorLaid Tryf.prog 400 os) #[.string ⟨#[]⟩] rfl (by kernel_rfl) (by kernel_rfl) (by kernel_rfl)
      (OpenSpec.preRow_of_cond 8 hx (by kernel_rfl) (fun k hk => by cases hk) (by kernel_rfl) (door_met os _))) ?_
  intro F W base args ds gs before _ hF hval hW _ _ hsz hL _
  exact contract H enc W base args ds gs before hval hW hsz (errIs_of hL) F hF

theorem stopsOf : Tryf.pinned.checked.prog.stops = ["fmt.Sprintf"] := by kernel_rfl
theorem knobsOf : Tryf.pinned.checked.prog.stopKnobs = [] := by kernel_rfl
theorem quietOf (os : Os) : Stop.quiet Tryf.pinned.checked.prog os := by
  intro k hk
  rw [knobsOf] at hk
  cases hk

theorem proved : Rows.FnExactFaultTextToldSaid :=
  Claim7.holds_of_told_tied_any_at .later 3 Tryf.f3 "fmt.Sprintf" [] [] _ _ _ _ _ (by kernel_rfl) rfl rfl rfl (by kernel_rfl) (by kernel_rfl) rfl ⟨rfl, rfl, rfl, rfl, rfl, rfl, rfl⟩ rfl rfl (by kernel_rfl) (by kernel_rfl) Tryf.func3 (by kernel_rfl)
    (of_decide_eq_true (by kernel_rfl)) (of_decide_eq_true (by kernel_rfl)) stopsOf.symm rfl knobsOf.symm (by kernel_rfl)
    (by kernel_rfl) (by kernel_rfl) (by kernel_rfl) (by kernel_rfl) (by kernel_rfl) (by kernel_rfl) (by kernel_rfl) (by kernel_rfl) (by kernel_rfl) rfl (by kernel_rfl) rfl rfl
    rfl rfl
    rfl (by kernel_rfl) (by kernel_rfl) (by kernel_rfl) (by decide) (by kernel_rfl) fnExactFaultText_row_tie
    (OpenClaim.moreEntering_of (by kernel_rfl) (by kernel_rfl) (by kernel_rfl) (by kernel_rfl) (by kernel_rfl) (by kernel_rfl) (by kernel_rfl) (by kernel_rfl) (by kernel_rfl) (by kernel_rfl))
    ⟨_, WideRow.started_initial, quietOf _⟩
    (fun os started _ H enc _ => lifted os started H enc)
end Go.Proofs.YtejeoglpcbeaeaaFmt.fnExactFaultText
