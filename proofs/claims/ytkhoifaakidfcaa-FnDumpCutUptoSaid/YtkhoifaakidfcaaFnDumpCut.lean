/-
  FnDumpCut: a dump does not depend on where the data is cut, where the arguments hold together at most 1048576 values and letters.
-/
import Derived.Test.YtkhoifaakidfcaaCommon
import Derived.Test.YtkhoifaakidfcaaDumpAll
import Derived.Test.YtkhoifaakidfcaaDumpPure2
namespace Go.Proofs.Ytkhoifaakidfcaa.fnDumpCut
open Go.ChangeShapes Go.WideShapes Go.ChangeAt Go.RowKit Go.Lib
open Go.ChangeMaps (open_string shut_string)
set_option linter.unusedVariables false

theorem three_rp (W : World) (X Y : Option Addr) (a b c d : Nat) (l1 l2 : List UInt8) (h1 : RB W X a l1) (h2 : RB W Y b l2) (hac : a ≤ c) (hbd : b ≤ d) (hc : c ≤ 9223372036854775807) (hd : d ≤ 9223372036854775807) :
    RP ((W.alloc (.cells #[] 5)).alloc (.cells #[.slice X a c, .slice (some ⟨W.heap.size, 0, none⟩) 0 0, .slice Y b d] 22)) (some ⟨W.heap.size + 1, 0, none⟩) 3 [l1, [], l2] := by
  have hc2 : ∀ i, ((W.alloc (.cells #[] 5)).alloc (.cells #[.slice X a c, .slice (some ⟨W.heap.size, 0, none⟩) 0 0, .slice Y b d] 22)).cell? ⟨W.heap.size + 1, i, none⟩ = (#[Value.slice X a c, .slice (some ⟨W.heap.size, 0, none⟩) 0 0, .slice Y b d])[i]? := by
    intro i
    have := heap_alloc_new (W.alloc (.cells #[] 5)) (.cells #[.slice X a c, .slice (some ⟨W.heap.size, 0, none⟩) 0 0, .slice Y b d] 22)
    rw [show (W.alloc (.cells #[] 5)).heap.size = W.heap.size + 1 by simp] at this
    exact Lib.cell_of_heap this i
  refine ⟨rfl, fun _ => ⟨W.heap.size + 1, 0, rfl, by simp, fun i l hi => ?_⟩⟩
  match i with
  | 0 => simp at hi; subst hi; exact ⟨X, a, c, by rw [hc2]; rfl, (h1.alloc _).alloc _, hac, hc⟩
  | 1 => simp at hi; subst hi; exact ⟨_, 0, 0, by rw [hc2]; rfl, RB.nil_ _ _, Nat.le_refl _, by omega⟩
  | 2 => simp at hi; subst hi; exact ⟨Y, b, d, by rw [hc2]; rfl, (h2.alloc _).alloc _, hbd, hd⟩
  | i + 3 => simp at hi

set_option maxHeartbeats 1000000 in
set_option maxRecDepth 100000 in
theorem walk (A0 : Option Addr) (n0 c0 : Nat) (l0 : List UInt8) (x1 : Int) (w : World) (h0 : RB w A0 n0 l0) (e0 : n0 ≤ c0) (g0 : c0 ≤ 140737488351232) (b1 : -9223372036854775808 ≤ x1 ∧ x1 ≤ 9223372036854775807) (hk : c0 ≤ 1048576) :
    Calls Try.prog 11 #[.slice A0 n0 c0, .int .i64 x1] w fun e w' => e = .returned (.bool true) ∧ Below w.heap.size w w' := by
  have HB0 := Lib.hid h0
  have HL0 : Hid (l0.length = n0) := h0.1
  clear h0
  by_cases hx0 : x1 < 0
  · go_enter Try.func11, Try.ntmps11
    go_wp2_with fail
    go_ret
    exact ⟨rfl, Below.refl _ _⟩
  by_cases hx1 : (n0 : Int) < x1
  · go_enter Try.func11, Try.ntmps11
    go_wp2_with fail
    go_ret
    exact ⟨rfl, Below.refl _ _⟩
  obtain ⟨k, rfl⟩ : ∃ k : Nat, x1 = (k : Int) := ⟨x1.toNat, by omega⟩
  have hk0 : k ≤ n0 := by omega
  have hto := fun w => run_to A0 n0 c0 (k : Int) (by omega) (by omega) w
  have hfr := fun w => run_from A0 n0 c0 (k : Int) (by omega) (by omega) w
  simp only [Int.toNat_natCast] at hto hfr
  have hk1 : (0 : Int) ≤ (k : Int) := by omega
  have hk2 : (k : Int) ≤ (n0 : Int) := by omega
  have hk3 : (k : Int) ≤ (c0 : Int) := by omega
  have HBd : Hid (RB w.drew A0 n0 l0) := HB0.out.drew
  have HFl : Hid ([l0.take k, [], l0.drop k].flatten = l0) := by simp [Hid]
  have hfl : 33 * [l0.take k, [], l0.drop k].flatten.length + 1000 ≤ 140737488355328 := by rw [HFl.out, HL0.out]; omega
  go_enter Try.func11, Try.ntmps11
  go_wp2_with fail
  go_region_held3 (fun _ => True) (trivial)
    (first
      | (go_at_call 14; refine (implDump A0 n0 c0 l0 w.drew HBd.out e0 (by omega) (by omega)).mono ?_; rintro e w1 ⟨s, rfl, hs, hz, hb⟩; have q1 : (s.toList.isEmpty == ((n0 : Int) == 0)) = true := (by rw [hs.out, beq_iff_eq, Bool.eq_iff_iff, List.isEmpty_iff, Dm.dump_nil_iff, beq_iff_eq, ← HL0.out]; exact ⟨fun h => (by rw [h]; rfl), fun h => List.eq_nil_of_length_eq_zero (by omega)⟩); have HB1 := Lib.hid hb; have HR1 := Lib.hid (HBd.out.below hb); clear hb)
      | (go_at_call 16; refine (dumpParts _ 3 3 [l0.take k, [], l0.drop k] _ (three_rp w1 A0 (cutA A0 c0 k) k (n0 - k) c0 (c0 - k) (l0.take k) (l0.drop k) (HR1.out.to_ hk0) (HR1.out.from_ hk0 e0) (by omega) (by omega) (by omega) (by omega)) (by omega) hfl).mono ?_; rintro e w2 ⟨t, rfl, ht, hzt, hb2⟩; have HB2 : Hid (Below w1.heap.size w1 w2) := (((Below.refl _ w1).alloc (Nat.le_refl _) _).alloc (by simp) _).trans (hb2.mono (by simp; omega)); have HR2 := Lib.hid ((HR1.out.alloc (.cells #[] 5)).alloc (.cells #[.slice A0 k c0, .slice (some ⟨w1.heap.size, 0, none⟩) 0 0, .slice (cutA A0 c0 k) (n0 - k) (c0 - k)] 22)); have HR3 := Lib.hid (HR2.out.below hb2))
      | (go_at_call 14; refine (implDump A0 n0 c0 l0 w2 HR3.out e0 (by omega) (by omega)).mono ?_; rintro e w3 ⟨u, rfl, hu, hzu, hb3⟩))
  have q2 : (t.toList == u.toList) = true := by rw [ht.out, hu.out, HFl.out]; simp
  have HB3 : Hid (Below w.heap.size w w3) := ((Below.refl _ w).drew.trans HB1.out).trans ((HB2.out.trans (hb3.mono HB2.out.size)).mono HB1.out.size)
  clear hb3
  go_wp2_with fail
  go_ret
  exact ⟨ret_true (by simpa using q2), HB3.out⟩

/-- What the walk gives, said of whatever the row reads. -/
theorem contract (H : Type) (enc : TypeId × Value → H) (W : World) (base : Nat) (args : Array Value) (ds gs : List (DataW H)) (before : List MemPlace)
    (hval : ∀ (j : Nat) t v, Try.f11.params[j]? = some t → args[j]? = some v → Value.okWide Try.prog W .any base t v)
    (hW : DataW.Whole enc Try.prog Try.f11.params.toList Rows.fnDumpCutSpec.vars false W args.toList ds gs before)
    (hsz : (DataW.weightsEach Try.prog (Try.f11.params.toList ++ Rows.fnDumpCutSpec.plain.varTypes Try.prog) (ds ++ gs)).all (· ≤ reachBytes) = true) (hk : Rows.uptoBulkAll (ds ++ gs) ≤ 1048576) :
    Calls Try.prog 11 args W fun e W' => ∃ v, e = .returned v ∧ Rows.fnDumpCutSpec.post enc Try.prog Try.f11 false true false false W args v W' := by
  have hW' := hW
  obtain ⟨p, q, hA0, hV, rfl, _, _⟩ := hW
  have hA : DataW.TrodAll enc Try.prog W 0 (fun _ => true) true Try.f11.params.toList args.toList ds p := hA0
  clear hA0
  rw [Try.params11] at hA hval hsz
  obtain ⟨v0, vs0, d0, ds0, p0, q0, hargs, rfl, rfl, h0, r0⟩ := trodAll_cons hA
  obtain ⟨v1, vs1, d1, ds1, p1, q1, rfl, rfl, rfl, h1, r1⟩ := trodAll_cons r0
  obtain ⟨rfl, rfl, rfl⟩ := trodAll_nil r1
  obtain rfl : args = #[v0, v1] := by cases args; simp_all
  obtain ⟨rfl, rfl⟩ := trodVars_none hV
  have k0 := h0
  have lt0 : ∀ x ∈ p0, x.block < W.heap.size := by obtain ⟨m, hm⟩ := k0; exact DataW.trod_lt m _ _ _ hm
  have k1 := h1
  have lt1 : ∀ x ∈ p1, x.block < W.heap.size := by obtain ⟨m, hm⟩ := k1; exact DataW.trod_lt m _ _ _ hm
  obtain ⟨A0, n0, c0, rfl⟩ := okWide_slice Try.underlying22 (hval 0 22 v0 rfl rfl)
  obtain ⟨l0, h0r, e0, g0, u0⟩ := argB h0 (weigh hsz (j := 0) rfl rfl)
  obtain ⟨x1, rfl, rfl, rfl, w1⟩ := open_int Try.underlying3 (hval 1 3 v1 rfl rfl) h1
  simp only [List.append_nil, Rows.uptoBulkAll] at hk
  refine (walk A0 n0 c0 l0 x1 W h0r e0 g0 (int_wf w1) (by omega)).mono fun e W' ⟨he, bel⟩ => ?_
  subst he
  exact ⟨_, rfl, _, _, _, [], _, [], hW', trodAll_mk1 (shut_bool Try.underlying4 _), (trodAll_cons_mk (Below.trod laidOut (by kernel_rfl) (of_decide_eq_true (by kernel_rfl)) k0 bel lt0) (trodAll_cons_mk (Below.trod laidOut (by kernel_rfl) (of_decide_eq_true (by kernel_rfl)) k1 bel lt1) trodAll_mk0)), rfl, bel.frame _, fun h => by cases h⟩

set_option maxRecDepth 100000 in
theorem lifted (os : Os) (started : os.Started) (H : Type) (enc : TypeId × Value → H) (F : Stop.Interp) :
    ReturnsInHanded {} Try.checked os 11 .any ((Rows.OpenSpec.upto Rows.fnDumpCutSpec).pre6 enc Try.prog Try.f11 Rows.fnDumpCutUptoRow.domain false) (((Rows.OpenSpec.upto Rows.fnDumpCutSpec).at F).post enc Try.prog Try.f11 false true false false) := by
  refine returnsInHanded_of_cond_sized (C := Try.checked) (s := Rows.OpenSpec.upto Rows.fnDumpCutSpec) (k := Rows.uptoSmall) rfl own started (by kernel_rfl) Try.func11
    (OpenSpec.witness (enc := enc) (C := Try.checked) (s := Rows.OpenSpec.upto Rows.fnDumpCutSpec) (k := Rows.uptoSmall) rfl false ⟨#[], #[.slice none 0 0, .int .i64 0], []⟩ 8 (by kernel_rfl) (by kernel_rfl) (by kernel_rfl)
      (x := ([.nil, .lit (.int .i64 0)], [], [])) (by kernel_rfl) rfl (by kernel_rfl)) ?_
  intro W base args ds gs before hval hW _ hk hsz _
  exact contract H enc W base args ds gs before hval hW hsz (of_decide_eq_true hk)

theorem over : Rows.fnDumpCutUptoRow.holds Try.pinned (Rows.OpenSpec.upto Rows.fnDumpCutSpec) :=
  OpenClaim.holds_of_cond 11 Try.f11 rfl rfl rfl rfl rfl rfl rfl ⟨rfl, rfl, rfl, rfl, rfl⟩ rfl rfl rfl rfl rfl (by kernel_rfl) Try.func11 (by kernel_rfl)
    (of_decide_eq_true (by kernel_rfl)) (by unfold Func.isWrapper; first | (rw [if_pos (by decide +kernel)]; kernel_rfl) | (rw [if_neg (by decide +kernel)]; exact ⟨rfl, rfl⟩))
    (fun os started H enc _ F => lifted os started H enc F)

theorem proved : Rows.FnDumpCutUptoSaid := over
end Go.Proofs.Ytkhoifaakidfcaa.fnDumpCut
