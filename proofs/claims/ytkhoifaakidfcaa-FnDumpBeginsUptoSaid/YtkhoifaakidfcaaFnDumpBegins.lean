/-
  FnDumpBegins: whole lines of a dump have 79 bytes and stay, whatever is behind, where the arguments hold together at most 1048576 values and letters.
-/
import Derived.Test.YtkhoifaakidfcaaCommon
import Derived.Test.YtkhoifaakidfcaaDumpAll
import Derived.Test.YtkhoifaakidfcaaDumpPure2
namespace Go.Proofs.Ytkhoifaakidfcaa.fnDumpBegins
open Go.ChangeShapes Go.WideShapes Go.ChangeAt Go.RowKit Go.Lib
open Go.ChangeMaps (open_string shut_string)
set_option linter.unusedVariables false

theorem begins (s u : ByteArray) (a b : List UInt8) (hs : s.toList = Dm.dumpL a) (hu : u.toList = Dm.dumpL (a ++ b)) (h : a.length % 16 = 0) : s.size ≤ u.size ∧ ((u.extract 0 s.size).toList == s.toList) = true := by
  have e1 : s.toList.length = s.size := by rw [Go.ByteArray.toList_eq]; exact Array.length_toList
  have e2 : u.toList.length = u.size := by rw [Go.ByteArray.toList_eq]; exact Array.length_toList
  obtain ⟨y, e⟩ := Dm.dump_begins a b h
  rw [e, ← hs] at hu
  constructor
  · rw [← e1, ← e2, hu, List.length_append]; omega
  · rw [beq_iff_eq, ext_list, hu, ← e1]
    simp

set_option maxHeartbeats 1000000 in
set_option maxRecDepth 100000 in
theorem walk (A0 : Option Addr) (n0 c0 : Nat) (l0 : List UInt8) (A1 : Option Addr) (n1 c1 : Nat) (l1 : List UInt8) (w : World) (h0 : RB w A0 n0 l0) (e0 : n0 ≤ c0) (g0 : c0 ≤ 140737488351232) (h1 : RB w A1 n1 l1) (e1 : n1 ≤ c1) (g1 : c1 ≤ 140737488351232) (hk : c0 + c1 ≤ 1048576) :
    Calls Try.prog 5 #[.slice A0 n0 c0, .slice A1 n1 c1] w fun e w' => e = .returned (.bool true) ∧ Below w.heap.size w w' := by
  have HB0 := Lib.hid h0
  have HB1 := Lib.hid h1
  clear h0 h1
  obtain ⟨n, hn⟩ : ∃ n, n = n0 / 16 * 16 := ⟨_, rfl⟩
  have hn1 : n ≤ n0 := by omega
  have HN16 : Hid (n % 16 = 0) := by simp only [Hid]; omega
  have ei : (n0 : Int) / 16 * 16 = (n : Int) := by omega
  have hto := fun w => run_to A0 n0 c0 (n : Int) (by omega) (by omega) w
  have HT := Lib.hid (HB0.out.to_ hn1)
  have HTl : Hid ((l0.take n).length = n) := HT.out.1
  have HN := Lib.hid hn
  clear hn
  have hnc : n ≤ c0 := by omega
  go_enter Try.func5, Try.ntmps5
  go_wp2_with fail
  refine (implDump _ _ _ (l0.take n) _ HT.out hnc (by omega) (by omega)).mono ?_
  rintro e w1 ⟨s, rfl, hs, hz, hb⟩
  have HW1 := Lib.hid hb
  have HT1 := Lib.hid (HT.out.below hb)
  have HB1' := Lib.hid (HB1.out.below hb)
  clear hb
  go_wp2_with (at_builtin; refine wpList_appB rfl (.tmp 16) (.tmp 19) rfl w1.heap.size 0 0 (some ⟨w1.heap.size, 0, none⟩) [] rfl (OB.made w1 _ (Nat.le_refl _) #[] (by simp)) A0 n c0 (l0.take n) rfl (HT1.out.alloc _) (by omega) (by simp) ?_; intro A2 c2 w2 hown1 hg1 hat1; refine Hid.out ?_)
  refine Lib.hid ?_
  have hbw1 : Below w1.heap.size w1 w2 := (OB.made w1 _ (Nat.le_refl _) #[] (by simp)).grows ((Below.refl _ w1).alloc (Nat.le_refl _) _) hg1 (Nat.le_refl _) (by simp)
  simp only [Nat.zero_add, List.nil_append] at hown1 ⊢
  have HO1 := Lib.hid hown1
  clear hown1 hg1 hat1
  go_wp2_with (at_builtin; refine wpList_appB rfl (.tmp 20) (.tmp 21) rfl w1.heap.size n c2 A2 (l0.take n) rfl HO1.out A1 n1 c1 l1 rfl (HB1'.out.below hbw1) (by omega) hbw1.size ?_; intro A3 c3 w3 hown2 hg2 hat2; refine Hid.out ?_)
  refine Lib.hid ?_
  have hbw2 : Below w1.heap.size w1 w3 := HO1.out.grows hbw1 hg2 (Nat.le_refl _) hbw1.size
  have hle := hown2.le
  simp only [maxLen] at hle
  have HO2 := Lib.hid hown2.rb
  have HW3 := Lib.hid (HW1.out.trans (hbw2.mono HW1.out.size))
  clear hown2 hg2 hat2 hbw1 hbw2
  go_wp2_with fail
  refine (implDump _ _ _ (l0.take n ++ l1) _ HO2.out (by omega) (by omega) (by omega)).mono ?_
  rintro e w4 ⟨u, rfl, hu, hzu, hb4⟩
  have HW4 := Lib.hid (HW3.out.trans (hb4.mono HW3.out.size))
  clear hb4
  obtain ⟨b1, b2⟩ := begins s u (l0.take n) l1 hs.out hu.out (by rw [HTl.out]; exact HN16.out)
  have b3 : ((s.size : Int) == (n : Int) / 16 * 79) = true := by
    have h1 := hz.out
    rw [Dm.dump_len, HTl.out, if_pos HN16.out] at h1
    simp
    omega
  have b4 : decide (s.size ≤ u.size) = true := by simpa using b1
  have b5 : decide ((s.size : Int) ≤ (u.size : Int)) = true := by simpa using b1
  go_wp2_with fail
  all_goals trace_state
  go_ret
  exact ⟨ret_true (by simp [b2]), HW4.out⟩

/-- What the walk gives, said of whatever the row reads. -/
theorem contract (H : Type) (enc : TypeId × Value → H) (W : World) (base : Nat) (args : Array Value) (ds gs : List (DataW H)) (before : List MemPlace)
    (hval : ∀ (j : Nat) t v, Try.f5.params[j]? = some t → args[j]? = some v → Value.okWide Try.prog W .any base t v)
    (hW : DataW.Whole enc Try.prog Try.f5.params.toList Rows.fnDumpBeginsSpec.vars false W args.toList ds gs before)
    (hsz : (DataW.weightsEach Try.prog (Try.f5.params.toList ++ Rows.fnDumpBeginsSpec.plain.varTypes Try.prog) (ds ++ gs)).all (· ≤ reachBytes) = true) (hk : Rows.uptoBulkAll (ds ++ gs) ≤ 1048576) :
    Calls Try.prog 5 args W fun e W' => ∃ v, e = .returned v ∧ Rows.fnDumpBeginsSpec.post enc Try.prog Try.f5 false true false false W args v W' := by
  have hW' := hW
  obtain ⟨p, q, hA0, hV, rfl, _, _⟩ := hW
  have hA : DataW.TrodAll enc Try.prog W 0 (fun _ => true) true Try.f5.params.toList args.toList ds p := hA0
  clear hA0
  rw [Try.params5] at hA hval hsz
  obtain ⟨v0, vs0, d0, ds0, p0, q0, hargs, rfl, rfl, h0, r0⟩ := trodAll_cons hA
  obtain ⟨v1, vs1, d1, ds1, p1, q1, rfl, rfl, rfl, h1, r1⟩ := trodAll_cons r0
  obtain ⟨rfl, rfl, rfl⟩ := trodAll_nil r1
  obtain rfl : args = #[v0, v1] := by cases args; simp_all
  obtain ⟨rfl, rfl⟩ := trodVars_none hV
  have k0 := h0
  have lt0 : ∀ x ∈ p0, x.block < W.heap.size := by obtain ⟨m, hm⟩ := k0; exact DataW.trod_lt m _ _ _ hm
  have k1 := h1
  have lt1 : ∀ x ∈ p1, x.block < W.heap.size := by obtain ⟨m, hm⟩ := k1; exact DataW.trod_lt m _ _ _ hm
  obtain ⟨A0, n0, c0, rfl⟩ := okWide_slice Try.underlying22 (hval 0 22 v0 rfl rfl)
  obtain ⟨l0, h0r, e0, g0, u0⟩ := argB h0 (weigh hsz (j := 0) rfl rfl)
  obtain ⟨A1, n1, c1, rfl⟩ := okWide_slice Try.underlying22 (hval 1 22 v1 rfl rfl)
  obtain ⟨l1, h1r, e1, g1, u1⟩ := argB h1 (weigh hsz (j := 1) rfl rfl)
  simp only [List.append_nil, Rows.uptoBulkAll] at hk
  refine (walk A0 n0 c0 l0 A1 n1 c1 l1 W h0r e0 g0 h1r e1 g1 (by omega)).mono fun e W' ⟨he, bel⟩ => ?_
  subst he
  exact ⟨_, rfl, _, _, _, [], _, [], hW', trodAll_mk1 (shut_bool Try.underlying4 _), (trodAll_cons_mk (Below.trod laidOut (by kernel_rfl) (of_decide_eq_true (by kernel_rfl)) k0 bel lt0) (trodAll_cons_mk (Below.trod laidOut (by kernel_rfl) (of_decide_eq_true (by kernel_rfl)) k1 bel lt1) trodAll_mk0)), rfl, bel.frame _, fun h => by cases h⟩

set_option maxRecDepth 100000 in
theorem lifted (os : Os) (started : os.Started) (H : Type) (enc : TypeId × Value → H) (F : Stop.Interp) :
    ReturnsInHanded {} Try.checked os 5 .any ((Rows.OpenSpec.upto Rows.fnDumpBeginsSpec).pre6 enc Try.prog Try.f5 Rows.fnDumpBeginsUptoRow.domain false) (((Rows.OpenSpec.upto Rows.fnDumpBeginsSpec).at F).post enc Try.prog Try.f5 false true false false) := by
  refine returnsInHanded_of_cond_sized (C := Try.checked) (s := Rows.OpenSpec.upto Rows.fnDumpBeginsSpec) (k := Rows.uptoSmall) rfl own started (by kernel_rfl) Try.func5
    (OpenSpec.witness (enc := enc) (C := Try.checked) (s := Rows.OpenSpec.upto Rows.fnDumpBeginsSpec) (k := Rows.uptoSmall) rfl false ⟨#[], #[.slice none 0 0, .slice none 0 0], []⟩ 8 (by kernel_rfl) (by kernel_rfl) (by kernel_rfl)
      (x := ([.nil, .nil], [], [])) (by kernel_rfl) rfl (by kernel_rfl)) ?_
  intro W base args ds gs before hval hW _ hk hsz _
  exact contract H enc W base args ds gs before hval hW hsz (of_decide_eq_true hk)

theorem over : Rows.fnDumpBeginsUptoRow.holds Try.pinned (Rows.OpenSpec.upto Rows.fnDumpBeginsSpec) :=
  OpenClaim.holds_of_cond 5 Try.f5 rfl rfl rfl rfl rfl rfl rfl ⟨rfl, rfl, rfl, rfl, rfl⟩ rfl rfl rfl rfl rfl (by kernel_rfl) Try.func5 (by kernel_rfl)
    (of_decide_eq_true (by kernel_rfl)) (by unfold Func.isWrapper; first | (rw [if_pos (by decide +kernel)]; kernel_rfl) | (rw [if_neg (by decide +kernel)]; exact ⟨rfl, rfl⟩))
    (fun os started H enc _ F => lifted os started H enc F)

theorem proved : Rows.FnDumpBeginsUptoSaid := over
end Go.Proofs.Ytkhoifaakidfcaa.fnDumpBegins
