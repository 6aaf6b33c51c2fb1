/-
  FnEncodeJoin: the text of bytes put together is that of both texts, where the arguments hold together at most 1048576 values and letters.
-/
import Derived.Test.YthljickkppdeoaaCommon
import Derived.Test.YthljickkppdeoaaEncode
import Derived.Test.YthljickkppdeoaaAppend
namespace Go.Proofs.Ythljickkppdeoaa.fnEncodeJoin
open Go.ChangeShapes Go.WideShapes Go.ChangeAt Go.RowKit Go.Lib
open Go.ChangeMaps (open_string shut_string)
set_option linter.unusedVariables false

theorem join_text (s x y : ByteArray) (a b : List UInt8) (hs : s.toList = Hx.encode (a ++ b)) (hx : x.toList = Hx.encode a) (hy : y.toList = Hx.encode b) : (s.toList == (x ++ y).toList) = true := by
  rw [beq_iff_eq, hs, Hex.encode_append, ← hx, ← hy, Go.ByteArray.toList_eq, Go.ByteArray.toList_eq, Go.ByteArray.toList_eq]
  simp

set_option maxHeartbeats 1000000 in
set_option maxRecDepth 100000 in
theorem walk (A0 : Option Addr) (n0 c0 : Nat) (l0 : List UInt8) (A1 : Option Addr) (n1 c1 : Nat) (l1 : List UInt8) (w : World) (h0 : RB w A0 n0 l0) (e0 : n0 ≤ c0) (g0 : c0 ≤ 140737488351232) (h1 : RB w A1 n1 l1) (e1 : n1 ≤ c1) (g1 : c1 ≤ 140737488351232) (hk : c0 + c1 ≤ 1048576) :
    Calls Try.prog 8 #[.slice A0 n0 c0, .slice A1 n1 c1] w fun e w' => e = .returned (.bool true) ∧ Below w.heap.size w w' := by
  have HB0 := Lib.hid h0
  have HB1 := Lib.hid h1
  clear h0 h1
  go_enter Try.func8, Try.ntmps8
  go_wp2_with (at_builtin; refine wpList_appB rfl (.tmp 6) (.tmp 7) rfl w.heap.size 0 0 (some ⟨w.heap.size, 0, none⟩) [] rfl (OB.made w _ (Nat.le_refl _) #[] (by simp)) A0 n0 c0 l0 rfl (HB0.out.alloc _) (by omega) (by simp) ?_; intro A2 c2 w1 hown1 hg1 hat1; refine Hid.out ?_)
  refine Lib.hid ?_
  have hbw1 : Below w.heap.size w w1 := (OB.made w _ (Nat.le_refl _) #[] (by simp)).grows ((Below.refl _ w).alloc (Nat.le_refl _) _) hg1 (Nat.le_refl _) (by simp)
  simp only [Nat.zero_add, List.nil_append] at hown1 ⊢
  have HO1 := Lib.hid hown1
  clear hown1 hg1 hat1
  go_wp2_with (at_builtin; refine wpList_appB rfl (.tmp 8) (.tmp 9) rfl w.heap.size n0 c2 A2 l0 rfl HO1.out A1 n1 c1 l1 rfl (HB1.out.below hbw1) (by omega) hbw1.size ?_; intro A3 c3 w2 hown2 hg2 hat2; refine Hid.out ?_)
  refine Lib.hid ?_
  have hbw2 : Below w.heap.size w w2 := HO1.out.grows hbw1 hg2 (Nat.le_refl _) hbw1.size
  have hle := hown2.le
  have HO2 := Lib.hid hown2.rb
  have HO3 := Lib.hid hown2.len
  clear hown2 hg2 hat2
  go_wp2_with fail
  refine (encodeText _ _ _ (l0 ++ l1) _ HO2.out (by omega)).mono ?_
  rintro e w3 ⟨s, rfl, hs, hz, hb3⟩
  have q1 : ((s.size : Int) == 2 * ((n0 : Int) + (n1 : Int))) = true := by have := hz.out; simp; omega
  have HO4 := Lib.hid (HO2.out.below hb3)
  have hbw3 : Below w.heap.size w w3 := hbw2.trans (hb3.mono hbw2.size)
  clear hbw2 hb3
  go_wp2_with fail
  refine (encodeText _ _ _ (l0 ++ l1) _ HO4.out (by omega)).mono ?_
  rintro e w4 ⟨s2, rfl, hs2, hz2, hb4⟩
  have hbw4 : Below w.heap.size w w4 := hbw3.trans (hb4.mono hbw3.size)
  clear hbw3 hb4
  go_wp2_with fail
  refine (encodeText _ _ _ l0 _ (HB0.out.below hbw4) (by omega)).mono ?_
  rintro e w5 ⟨x, rfl, hx, hzx, hb5⟩
  have hbw5 : Below w.heap.size w w5 := hbw4.trans (hb5.mono hbw4.size)
  clear hbw4 hb5
  go_wp2_with fail
  refine (encodeText _ _ _ l1 _ (HB1.out.below hbw5) (by omega)).mono ?_
  rintro e w6 ⟨y, rfl, hy, hzy, hb6⟩
  have hbw6 : Below w.heap.size w w6 := hbw5.trans (hb6.mono hbw5.size)
  clear hbw5 hb6
  have q2 := join_text s2 x y l0 l1 hs2.out hx.out hy.out
  have q3 : (x.size : Int) + y.size ≤ 9223372036854775807 := by have := hzx.out; have := hzy.out; omega
  go_wp2_with fail
  go_ways
  go_ret
  exact ⟨ret_true (by simp), hbw6⟩

/-- What the walk gives, said of whatever the row reads. -/
theorem contract (H : Type) (enc : TypeId × Value → H) (W : World) (base : Nat) (args : Array Value) (ds gs : List (DataW H)) (before : List MemPlace)
    (hval : ∀ (j : Nat) t v, Try.f8.params[j]? = some t → args[j]? = some v → Value.okWide Try.prog W .any base t v)
    (hW : DataW.Whole enc Try.prog Try.f8.params.toList Rows.fnEncodeJoinSpec.vars false W args.toList ds gs before)
    (hsz : (DataW.weightsEach Try.prog (Try.f8.params.toList ++ Rows.fnEncodeJoinSpec.plain.varTypes Try.prog) (ds ++ gs)).all (· ≤ reachBytes) = true) (hk : Rows.uptoBulkAll (ds ++ gs) ≤ 1048576) :
    Calls Try.prog 8 args W fun e W' => ∃ v, e = .returned v ∧ Rows.fnEncodeJoinSpec.post enc Try.prog Try.f8 false true false false W args v W' := by
  have hW' := hW
  obtain ⟨p, q, hA0, hV, rfl, _, _⟩ := hW
  have hA : DataW.TrodAll enc Try.prog W 0 (fun _ => true) true Try.f8.params.toList args.toList ds p := hA0
  clear hA0
  rw [Try.params8] at hA hval hsz
  obtain ⟨v0, vs0, d0, ds0, p0, q0, hargs, rfl, rfl, h0, r0⟩ := trodAll_cons hA
  obtain ⟨v1, vs1, d1, ds1, p1, q1, rfl, rfl, rfl, h1, r1⟩ := trodAll_cons r0
  obtain ⟨rfl, rfl, rfl⟩ := trodAll_nil r1
  obtain rfl : args = #[v0, v1] := by cases args; simp_all
  obtain ⟨rfl, rfl⟩ := trodVars_none hV
  have k0 := h0
  have lt0 : ∀ x ∈ p0, x.block < W.heap.size := by obtain ⟨m, hm⟩ := k0; exact DataW.trod_lt m _ _ _ hm
  have k1 := h1
  have lt1 : ∀ x ∈ p1, x.block < W.heap.size := by obtain ⟨m, hm⟩ := k1; exact DataW.trod_lt m _ _ _ hm
  obtain ⟨A0, n0, c0, rfl⟩ := okWide_slice Try.underlying25 (hval 0 25 v0 rfl rfl)
  obtain ⟨l0, h0r, e0, g0, u0⟩ := argB h0 (weigh hsz (j := 0) rfl rfl)
  obtain ⟨A1, n1, c1, rfl⟩ := okWide_slice Try.underlying25 (hval 1 25 v1 rfl rfl)
  obtain ⟨l1, h1r, e1, g1, u1⟩ := argB h1 (weigh hsz (j := 1) rfl rfl)
  simp only [List.append_nil, Rows.uptoBulkAll] at hk
  refine (walk A0 n0 c0 l0 A1 n1 c1 l1 W h0r e0 g0 h1r e1 g1 (by omega)).mono fun e W' ⟨he, bel⟩ => ?_
  subst he
  exact ⟨_, rfl, _, _, _, [], _, [], hW', trodAll_mk1 (shut_bool Try.underlying4 _), (trodAll_cons_mk (Below.trod laidOut (by kernel_rfl) (of_decide_eq_true (by kernel_rfl)) k0 bel lt0) (trodAll_cons_mk (Below.trod laidOut (by kernel_rfl) (of_decide_eq_true (by kernel_rfl)) k1 bel lt1) trodAll_mk0)), rfl, bel.frame _, fun h => by cases h⟩

set_option maxRecDepth 100000 in
theorem lifted (os : Os) (started : os.Started) (H : Type) (enc : TypeId × Value → H) (F : Stop.Interp) :
    ReturnsInHanded {} Try.checked os 8 .any ((Rows.OpenSpec.upto Rows.fnEncodeJoinSpec).pre6 enc Try.prog Try.f8 Rows.fnEncodeJoinUptoRow.domain false) (((Rows.OpenSpec.upto Rows.fnEncodeJoinSpec).at F).post enc Try.prog Try.f8 false true false false) := by
  refine returnsInHanded_of_cond_sized (C := Try.checked) (s := Rows.OpenSpec.upto Rows.fnEncodeJoinSpec) (k := Rows.uptoSmall) rfl own started (by kernel_rfl) Try.func8
    (OpenSpec.witness (enc := enc) (C := Try.checked) (s := Rows.OpenSpec.upto Rows.fnEncodeJoinSpec) (k := Rows.uptoSmall) rfl false ⟨#[], #[.slice none 0 0, .slice none 0 0], []⟩ 8 (by kernel_rfl) (by kernel_rfl) (by kernel_rfl)
      (x := ([.nil, .nil], [], [])) (by kernel_rfl) rfl (by kernel_rfl)) ?_
  intro W base args ds gs before hval hW _ hk hsz _
  exact contract H enc W base args ds gs before hval hW hsz (of_decide_eq_true hk)

theorem over : Rows.fnEncodeJoinUptoRow.holds Try.pinned (Rows.OpenSpec.upto Rows.fnEncodeJoinSpec) :=
  OpenClaim.holds_of_cond 8 Try.f8 rfl rfl rfl rfl rfl rfl rfl ⟨rfl, rfl, rfl, rfl, rfl⟩ rfl rfl rfl rfl rfl (by kernel_rfl) Try.func8 (by kernel_rfl)
    (of_decide_eq_true (by kernel_rfl)) (by unfold Func.isWrapper; first | (rw [if_pos (by decide +kernel)]; kernel_rfl) | (rw [if_neg (by decide +kernel)]; exact ⟨rfl, rfl⟩))
    (fun os started H enc _ F => lifted os started H enc F)

theorem proved : Rows.FnEncodeJoinUptoSaid := over
end Go.Proofs.Ythljickkppdeoaa.fnEncodeJoin
