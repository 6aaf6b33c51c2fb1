/-
  FnEncodeRoads: Encode into a buffer with room, AppendEncode and EncodeToString agree, where the arguments hold together at most 1048576 values and letters.
-/
import Derived.Test.YtbjhjiffbegakaaCommon
import Derived.Test.YtbjhjiffbegakaaAppEnc
import Derived.Test.YtbjhjiffbegakaaZeros
namespace Go.Proofs.Ytbjhjiffbegakaa.fnEncodeRoads
open Go.ChangeShapes Go.WideShapes Go.ChangeAt Go.RowKit Go.Lib
open Go.ChangeMaps (open_string shut_string)
set_option linter.unusedVariables false

theorem same_ne (x y : List UInt8) (h : x = y) : (!(x == y)) = false := by subst h; simp
theorem convT {w : World} {A : Option Addr} {n : Nat} {l : List UInt8} (h : RB w A n l) (c : Nat) : ∃ s : ByteArray, Hid (s.toList = l) ∧ (convert 22 9 (.slice A n c)).run Try.prog w = .ok (.string s) w :=
  ⟨_, by unfold Hid; rw [Go.ByteArray.toList_eq], conv h c⟩

set_option maxHeartbeats 1000000 in
set_option maxRecDepth 100000 in
theorem walk (A0 : Option Addr) (n0 c0 : Nat) (l0 : List UInt8) (A1 : Option Addr) (n1 c1 : Nat) (l1 : List UInt8) (w : World) (h0 : RB w A0 n0 l0) (e0 : n0 ≤ c0) (g0 : c0 ≤ 140737488351232) (h1 : RB w A1 n1 l1) (e1 : n1 ≤ c1) (g1 : c1 ≤ 140737488351232) (hk : c0 + c1 ≤ 1048576) :
    Calls Try.prog 7 #[.slice A0 n0 c0, .slice A1 n1 c1] w fun e w' => e = .returned (.bool true) ∧ Below w.heap.size w w' := by
  have HB0 := Lib.hid h0
  have HB1 := Lib.hid h1
  clear h0 h1
  obtain ⟨j, hj⟩ : ∃ j : Nat, j = 2 * n1 := ⟨_, rfl⟩
  obtain ⟨m, hm⟩ : ∃ m : Nat, n0 + j = m := ⟨_, rfl⟩
  have p1 : IntKind.i64.wrap (2 * (n1 : Int)) = (j : Int) := by rw [IntWalk.i64_in _ (by omega)]; omega
  have HJ := Lib.hid hj
  have HM := Lib.hid hm
  have HMb := Lib.hid (show m ≤ 140737488355328 by omega)
  have HN := Lib.hid (show m = n0 + 2 * n1 by omega)
  have hjm : j ≤ m := by omega
  clear hj hm
  go_enter Try.func7, Try.ntmps7
  go_wp2_with fail
  refine (encodeText _ _ _ l1 _ HB1.out (by omega)).mono ?_
  rintro e w1 ⟨s, rfl, hs, hz, hb1⟩
  have HE1 := Lib.hid hb1
  have F0 := Lib.hid (HB0.out.below hb1)
  have F1 := Lib.hid (HB1.out.below hb1)
  clear hb1
  go_wp2_with fail
  refine (implAppendEncodeK m _ _ _ l0 _ _ _ l1 _ HN.out F0.out F1.out HMb.out).mono ?_
  rintro e w2 ⟨A, c, rfl, hO, hb2⟩
  have HE2 := Lib.hid (HE1.out.trans (hb2.mono HE1.out.size))
  have G0 := Lib.hid (F0.out.below hb2)
  have G1 := Lib.hid (F1.out.below hb2)
  obtain ⟨u, hu, q1⟩ := convT hO.out.rb c
  obtain ⟨v, hv, q2⟩ := convT G0.out c0
  have hsame : (!(u.toList == (v ++ s).toList)) = false := same_ne _ _ (by
    have hs2 := hs.out
    have hv2 := hv.out
    rw [hu.out]
    rw [Go.ByteArray.toList_eq] at hs2 hv2 ⊢
    simp [hs2, hv2])
  have hsumb : v.size + s.size ≤ 9223372036854775807 := by
    have h1 : v.toList.length = v.size := by rw [Go.ByteArray.toList_eq]; exact Array.length_toList
    rw [hv.out, HB0.out.1] at h1
    have := hz.out
    omega
  clear hO hb2
  have hBs := Lib.hid ((Below.refl _ w2).alloc (Nat.le_refl _) (.cells #[] 5))
  have HO0 : Hid (OB (w2.alloc (.cells #[] 5)) w2.heap.size (some ⟨w2.heap.size, 0, none⟩) 0 0 []) := by
    have := OB.made w2 w2.heap.size (Nat.le_refl _) #[] (by simp)
    simpa [Hid] using this
  go_wp2_with (at_builtin; refine wpList_appB rfl (.tmp 22) (.tmp 23) rfl w2.heap.size 0 0 (some ⟨w2.heap.size, 0, none⟩) [] rfl (by exact HO0.out) A0 n0 c0 l0 rfl (by exact G0.out.alloc _) (by omega) (by exact hBs.out.size) ?_; intro A2 c2 w4 hown1 hg1 hat1; refine Hid.out ?_)
  refine Lib.hid ?_
  clear q1 q2 hsame
  have hb4 : Hid (Below w2.heap.size w2 w4) := HO0.out.grows hBs.out hg1 (Nat.le_refl _) hBs.out.size
  simp only [Nat.zero_add, List.nil_append] at hown1 ⊢
  have HO1 := Lib.hid hown1
  clear hown1 hg1 hat1
  go_wp2_with (at_builtin; refine wpList_appZ m rfl (.tmp 24) (.tmp 27) rfl w2.heap.size n0 c2 A2 l0 rfl (by exact HO1.out) j rfl HM.out HMb.out (by exact hb4.out.size) ?_; intro A3 c3 w5 hown2 hg2; refine Hid.out ?_)
  refine Lib.hid ?_
  have hb5 : Hid (Below w2.heap.size w2 w5) := HO1.out.grows hb4.out hg2 (Nat.le_refl _) hb4.out.size
  have HR := Lib.hid hown2.rb
  have K1 := Lib.hid (G1.out.below hb5.out)
  have HE5 := Lib.hid (HE2.out.trans (hb5.out.mono HE2.out.size))
  clear hown2 hg2
  go_wp2_with fail
  refine (implEncode _ _ _ _ _ _ _ l1 _ HR.out K1.out (by have := HN.out; omega) HMb.out).mono ?_
  rintro e w6 ⟨A6, c6, rfl, hc1, hc2, hR6, hb6⟩
  have HE6 := Lib.hid (HE5.out.trans (hb6.mono HE5.out.size))
  have h6 := hR6.out.to_ (k := 2 * n1) (by have := HN.out; omega)
  have hel : (Hx.encode l1).length = 2 * n1 := by rw [Hx.encode_length, HB1.out.1]
  rw [List.take_left' hel] at h6
  obtain ⟨x, hx, q6⟩ := convT h6 c6
  have t1 : ((n1 : Int) * 2 == (s.size : Int)) = true := by have := hz.out; simp; omega
  have t2 : (x.toList == s.toList) = true := by rw [hs.out, hx.out]; simp
  have hs6 := run_to A6 m c6 ((n1 : Int) * 2) (by omega) (by have := HJ.out; omega)
  rw [show ((n1 : Int) * 2).toNat = 2 * n1 by omega] at hs6
  clear hb6 hR6 h6 hel
  go_wp2_with fail
  go_ret
  exact ⟨ret_true (by simp), HE6.out⟩

/-- What the walk gives, said of whatever the row reads. -/
theorem contract (H : Type) (enc : TypeId × Value → H) (W : World) (base : Nat) (args : Array Value) (ds gs : List (DataW H)) (before : List MemPlace)
    (hval : ∀ (j : Nat) t v, Try.f7.params[j]? = some t → args[j]? = some v → Value.okWide Try.prog W .any base t v)
    (hW : DataW.Whole enc Try.prog Try.f7.params.toList Rows.fnEncodeRoadsSpec.vars false W args.toList ds gs before)
    (hsz : (DataW.weightsEach Try.prog (Try.f7.params.toList ++ Rows.fnEncodeRoadsSpec.plain.varTypes Try.prog) (ds ++ gs)).all (· ≤ reachBytes) = true) (hk : Rows.uptoBulkAll (ds ++ gs) ≤ 1048576) :
    Calls Try.prog 7 args W fun e W' => ∃ v, e = .returned v ∧ Rows.fnEncodeRoadsSpec.post enc Try.prog Try.f7 false true false false W args v W' := by
  have hW' := hW
  obtain ⟨p, q, hA0, hV, rfl, _, _⟩ := hW
  have hA : DataW.TrodAll enc Try.prog W 0 (fun _ => true) true Try.f7.params.toList args.toList ds p := hA0
  clear hA0
  rw [Try.params7] at hA hval hsz
  obtain ⟨v0, vs0, d0, ds0, p0, q0, hargs, rfl, rfl, h0, r0⟩ := trodAll_cons hA
  obtain ⟨v1, vs1, d1, ds1, p1, q1, rfl, rfl, rfl, h1, r1⟩ := trodAll_cons r0
  obtain ⟨rfl, rfl, rfl⟩ := trodAll_nil r1
  obtain rfl : args = #[v0, v1] := by cases args; simp_all
  obtain ⟨rfl, rfl⟩ := trodVars_none hV
  have k0 := h0
  have lt0 : ∀ x ∈ p0, x.block < W.heap.size := by obtain ⟨m, hm⟩ := k0; exact DataW.trod_lt m _ _ _ hm
  have k1 := h1
  have lt1 : ∀ x ∈ p1, x.block < W.heap.size := by obtain ⟨m, hm⟩ := k1; exact DataW.trod_lt m _ _ _ hm
  obtain ⟨A0, n0, c0, rfl⟩ := okWide_slice Try.underlying22 (hval 0 22 v0 rfl rfl)
  obtain ⟨l0, h0r, e0, g0, u0⟩ := argB h0 (weigh hsz (j := 0) rfl rfl)
  obtain ⟨A1, n1, c1, rfl⟩ := okWide_slice Try.underlying22 (hval 1 22 v1 rfl rfl)
  obtain ⟨l1, h1r, e1, g1, u1⟩ := argB h1 (weigh hsz (j := 1) rfl rfl)
  simp only [List.append_nil, Rows.uptoBulkAll] at hk
  refine (walk A0 n0 c0 l0 A1 n1 c1 l1 W h0r e0 g0 h1r e1 g1 (by omega)).mono fun e W' ⟨he, bel⟩ => ?_
  subst he
  exact ⟨_, rfl, _, _, _, [], _, [], hW', trodAll_mk1 (shut_bool Try.underlying4 _), (trodAll_cons_mk (Below.trod laidOut (by kernel_rfl) (of_decide_eq_true (by kernel_rfl)) k0 bel lt0) (trodAll_cons_mk (Below.trod laidOut (by kernel_rfl) (of_decide_eq_true (by kernel_rfl)) k1 bel lt1) trodAll_mk0)), rfl, bel.frame _, fun h => by cases h⟩

set_option maxRecDepth 100000 in
theorem lifted (os : Os) (started : os.Started) (H : Type) (enc : TypeId × Value → H) (F : Stop.Interp) :
    ReturnsInHanded {} Try.checked os 7 .any ((Rows.OpenSpec.upto Rows.fnEncodeRoadsSpec).pre6 enc Try.prog Try.f7 Rows.fnEncodeRoadsUptoRow.domain false) (((Rows.OpenSpec.upto Rows.fnEncodeRoadsSpec).at F).post enc Try.prog Try.f7 false true false false) := by
  refine returnsInHanded_of_cond_sized (C := Try.checked) (s := Rows.OpenSpec.upto Rows.fnEncodeRoadsSpec) (k := Rows.uptoSmall) rfl own started (by kernel_rfl) Try.func7
    (OpenSpec.witness (enc := enc) (C := Try.checked) (s := Rows.OpenSpec.upto Rows.fnEncodeRoadsSpec) (k := Rows.uptoSmall) rfl false ⟨#[], #[.slice none 0 0, .slice none 0 0], []⟩ 8 (by kernel_rfl) (by kernel_rfl) (by kernel_rfl)
      (x := ([.nil, .nil], [], [])) (by kernel_rfl) rfl (by kernel_rfl)) ?_
  intro W base args ds gs before hval hW _ hk hsz _
  exact contract H enc W base args ds gs before hval hW hsz (of_decide_eq_true hk)

theorem over : Rows.fnEncodeRoadsUptoRow.holds Try.pinned (Rows.OpenSpec.upto Rows.fnEncodeRoadsSpec) :=
  OpenClaim.holds_of_cond 7 Try.f7 rfl rfl rfl rfl rfl rfl rfl ⟨rfl, rfl, rfl, rfl, rfl⟩ rfl rfl rfl rfl rfl (by kernel_rfl) Try.func7 (by kernel_rfl)
    (of_decide_eq_true (by kernel_rfl)) (by unfold Func.isWrapper; first | (rw [if_pos (by decide +kernel)]; kernel_rfl) | (rw [if_neg (by decide +kernel)]; exact ⟨rfl, rfl⟩))
    (fun os started H enc _ F => lifted os started H enc F)

theorem proved : Rows.FnEncodeRoadsUptoSaid := over
end Go.Proofs.Ytbjhjiffbegakaa.fnEncodeRoads
