/-
  FnEncodeOne: the digits of each byte stand at twice its place, by themselves, for every argument that the form reaches.
-/
import Derived.Test.YthljickkppdeoaaCommon
import Derived.Test.YthljickkppdeoaaEncode
namespace Go.Proofs.Ythljickkppdeoaa.fnEncodeOne
open Go.ChangeShapes Go.WideShapes Go.ChangeAt Go.RowKit Go.Lib
open Go.ChangeMaps (open_string shut_string)
set_option linter.unusedVariables false



set_option maxHeartbeats 1000000 in
set_option maxRecDepth 100000 in
theorem walk (A0 : Option Addr) (n0 c0 : Nat) (l0 : List UInt8) (w : World) (h0 : RB w A0 n0 l0) (e0 : n0 ≤ c0) (g0 : c0 ≤ 140737488351232) :
    Calls Try.prog 9 #[.slice A0 n0 c0] w fun e w' => e = .returned (.bool true) ∧ Below w.heap.size w w' := by
  have HB := Lib.hid h0
  clear h0
  go_enter Try.func9, Try.ntmps9
  go_wp2_with (go_at_call 17; refine (encodeText _ _ _ l0 _ HB.out (by omega)).mono ?_; rintro e w1 ⟨s, rfl, hs, hz, hb⟩; refine Hid.out ?_)
  refine Lib.hid ?_
  have hz2 : ((s.size : Int) != 2 * (n0 : Int)) = false := by have := hz.out; simp; omega
  have hz3 : s.size ≤ 281474976710656 := by have := hz.out; omega
  have HB1 := Lib.hid (HB.out.below hb)
  go_wp2_with fail
  go_loopw [4] (fun i wr => ∃ k : Nat, k ≤ n0 ∧ i = .int .i64 k ∧ Hid (Below w1.heap.size w1 wr)) (fun i _ => n0 - (intOf i).toNat)
  case atStart => exact ⟨0, Nat.zero_le _, rfl, Below.refl _ _⟩
  case round =>
    obtain ⟨k, hk, rfl, hbr⟩ := hrel
    by_cases hlt : k < n0
    · obtain ⟨b, o, cc, rfl, hbs, hcc, hcell⟩ := (HB1.out.below hbr.out).at_ hlt
      have H1 : RB wr (some ⟨b, o + k, none⟩) 1 [cc] := ⟨rfl, fun _ => ⟨b, o + k, rfl, hbs, fun i c hi => by
        cases i with
        | zero => simp at hi; subst hi; simpa using hcell
        | succ i => simp at hi⟩⟩
      have H1' := Lib.hid H1
      have hcc' := Lib.hid hcc
      clear H1 hcc hcell
      have p1 : IntKind.i64.wrap (2 * (k : Int)) = 2 * (k : Int) := IntWalk.i64_in _ (by omega)
      have p2 : IntKind.i64.wrap (2 * (k : Int) + 2) = 2 * (k : Int) + 2 := IntWalk.i64_in _ (by omega)
      have p3 : IntKind.i64.wrap ((k : Int) + 1) = (k : Int) + 1 := IntWalk.i64_in _ (by omega)
      have p4 : 0 ≤ 2 * (k : Int) := by omega
      have p5 : 2 * (k : Int) ≤ 2 * (k : Int) + 2 := by omega
      have p6 : 2 * (k : Int) + 2 ≤ (s.size : Int) := by have := hz.out; omega
      have p7 : (k : Int) + 1 ≤ (c0 : Int) := by omega
      go_wp2_with fail
      go_region_with (go_at_call 17; refine (encodeText _ _ _ [cc] _ (by exact H1'.out) (by omega)).mono ?_; rintro e w2 ⟨u, rfl, hu, hzu, hbu⟩)
      have q : (!((s.extract (2 * k) (2 * k + 2)).toList == u.toList)) = false := by
        rw [Bool.not_eq_false', beq_iff_eq, hu.out, ext_list, hs.out, ← Hex.encode_pair l0 k cc hcc'.out, show 2 * k + 2 - 2 * k = 2 by omega]
      have hbx : Hid (Below w1.heap.size w1 w2) := hbr.out.drew.trans (hbu.mono hbr.out.size)
      clear p1 p2 p3 p4 p5 p6 p7
      have Q := Lib.hid q
      clear q
      go_wp2_with fail
      · have hh : (!((s.extract (2 * k) (2 * k + 2)).toList == u.toList)) = true := by assumption
        rw [Q.out] at hh
        cases hh
      · exact ⟨⟨k + 1, by omega, by go_num, hbx⟩, by simp [intOf]; omega⟩
    · go_wp2_with fail
      go_ret
      exact ⟨rfl, hb.trans (hbr.out.mono hb.size)⟩

/-- What the walk gives, said of whatever the row reads. -/
theorem contract (H : Type) (enc : TypeId × Value → H) (W : World) (base : Nat) (args : Array Value) (ds gs : List (DataW H)) (before : List MemPlace)
    (hval : ∀ (j : Nat) t v, Try.f9.params[j]? = some t → args[j]? = some v → Value.okWide Try.prog W .any base t v)
    (hW : DataW.Whole enc Try.prog Try.f9.params.toList Rows.fnEncodeOneSpec.vars false W args.toList ds gs before)
    (hsz : (DataW.weightsEach Try.prog (Try.f9.params.toList ++ Rows.fnEncodeOneSpec.plain.varTypes Try.prog) (ds ++ gs)).all (· ≤ reachBytes) = true) :
    Calls Try.prog 9 args W fun e W' => ∃ v, e = .returned v ∧ Rows.fnEncodeOneSpec.post enc Try.prog Try.f9 false true false false W args v W' := by
  have hW' := hW
  obtain ⟨p, q, hA0, hV, rfl, _, _⟩ := hW
  have hA : DataW.TrodAll enc Try.prog W 0 (fun _ => true) true Try.f9.params.toList args.toList ds p := hA0
  clear hA0
  rw [Try.params9] at hA hval hsz
  obtain ⟨v0, vs0, d0, ds0, p0, q0, hargs, rfl, rfl, h0, r0⟩ := trodAll_cons hA
  obtain ⟨rfl, rfl, rfl⟩ := trodAll_nil r0
  obtain rfl : args = #[v0] := by cases args; simp_all
  obtain ⟨rfl, rfl⟩ := trodVars_none hV
  have k0 := h0
  have lt0 : ∀ x ∈ p0, x.block < W.heap.size := by obtain ⟨m, hm⟩ := k0; exact DataW.trod_lt m _ _ _ hm
  obtain ⟨A0, n0, c0, rfl⟩ := okWide_slice Try.underlying25 (hval 0 25 v0 rfl rfl)
  obtain ⟨l0, h0r, e0, g0, u0⟩ := argB h0 (weigh hsz (j := 0) rfl rfl)
  refine (walk A0 n0 c0 l0 W h0r e0 g0).mono fun e W' ⟨he, bel⟩ => ?_
  subst he
  exact ⟨_, rfl, _, _, _, [], _, [], hW', trodAll_mk1 (shut_bool Try.underlying4 _), (trodAll_cons_mk (Below.trod laidOut (by kernel_rfl) (of_decide_eq_true (by kernel_rfl)) k0 bel lt0) trodAll_mk0), rfl, bel.frame _, fun h => by cases h⟩

set_option maxRecDepth 100000 in
theorem lifted (os : Os) (started : os.Started) (H : Type) (enc : TypeId × Value → H) :
    ReturnsInHanded {} Try.checked os 9 .any (Rows.fnEncodeOneSpec.pre6 enc Try.prog Try.f9 Rows.fnEncodeOneRow.domain false) (Rows.fnEncodeOneSpec.post enc Try.prog Try.f9 false true false false) := by
  refine returnsInHanded_of_change_sized (C := Try.checked) own started (by kernel_rfl) Try.func9
    (ChangeSpec.witness6 (enc := enc) (C := Try.checked) false ⟨#[], #[.slice none 0 0], []⟩ 8 (by kernel_rfl) (by kernel_rfl) (by kernel_rfl) (by kernel_rfl)) ?_
  intro W base args ds gs before hval hW _ hsz _
  exact contract H enc W base args ds gs before hval hW hsz

theorem over : Rows.fnEncodeOneRow.holds Try.pinned (OpenSpec.ofChange Rows.fnEncodeOneSpec) :=
  OpenClaim.holds_of_wide 9 Try.f9 rfl rfl rfl rfl rfl rfl rfl ⟨rfl, rfl, rfl, rfl, rfl⟩ rfl rfl rfl rfl rfl (by kernel_rfl) Try.func9 (by kernel_rfl)
    (of_decide_eq_true (by kernel_rfl)) (by unfold Func.isWrapper; first | (rw [if_pos (by decide +kernel)]; kernel_rfl) | (rw [if_neg (by decide +kernel)]; exact ⟨rfl, rfl⟩))
    (fun os started H enc _ => lifted os started H enc)

theorem proved : Rows.FnEncodeOneSaid := over
end Go.Proofs.Ythljickkppdeoaa.fnEncodeOne
