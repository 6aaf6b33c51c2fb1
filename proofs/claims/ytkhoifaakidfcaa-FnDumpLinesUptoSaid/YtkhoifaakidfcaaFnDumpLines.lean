/-
  FnDumpLines: a dump has a line for each sixteen bytes that are begun, and none for no bytes, where the arguments hold together at most 1048576 values and letters.
-/
import Derived.Test.YtkhoifaakidfcaaCommon
import Derived.Test.YtkhoifaakidfcaaDumpAll
import Derived.Test.YtkhoifaakidfcaaDumpPure2
namespace Go.Proofs.Ytkhoifaakidfcaa.fnDumpLines
open Go.ChangeShapes Go.WideShapes Go.ChangeAt Go.RowKit Go.Lib
open Go.ChangeMaps (open_string shut_string)
set_option linter.unusedVariables false

theorem at_list (s : ByteArray) (k : Nat) (hk : k < s.size) : s.toList[k]? = some s[k] := by
  rw [Go.ByteArray.toList_eq, Array.getElem?_toList, Array.getElem?_eq_getElem hk]
  rfl
theorem cnt_step (s : ByteArray) (k : Nat) (hk : k < s.size) : (s.toList.take (k + 1)).count 10 = (s.toList.take k).count 10 + (if s[k].toNat = 10 then 1 else 0) := by
  have h := at_list s k hk
  obtain ⟨hk', e⟩ := List.getElem?_eq_some_iff.1 h
  rw [List.take_succ_eq_append_getElem hk', List.count_append, e]
  congr 1
  by_cases h10 : s[k] = 10
  · rw [h10]; simp
  · rw [if_neg (show ¬ s[k].toNat = 10 from fun e => h10 (UInt8.toNat_inj.1 (by rw [e]; rfl))), List.count_singleton, if_neg (by simpa using h10)]

set_option maxHeartbeats 1000000 in
set_option maxRecDepth 100000 in
theorem walk (A0 : Option Addr) (n0 c0 : Nat) (l0 : List UInt8) (w : World) (h0 : RB w A0 n0 l0) (e0 : n0 ≤ c0) (g0 : c0 ≤ 140737488351232) (hk : c0 ≤ 1048576) :
    Calls Try.prog 6 #[.slice A0 n0 c0] w fun e w' => e = .returned (.bool true) ∧ Below w.heap.size w w' := by
  have HB0 := Lib.hid h0
  have HL0 : Hid (l0.length = n0) := h0.1
  clear h0
  go_enter Try.func6, Try.ntmps6
  go_wp2_with fail
  refine (implDump _ _ _ l0 _ HB0.out e0 (by omega) (by omega)).mono ?_
  rintro e w1 ⟨s, rfl, hs, hz, hb⟩
  have HBw := Lib.hid hb
  have hsz : s.size ≤ 100000000 := by
    have h1 := hz.out
    have h2 := Dm.dump_len l0
    have h3 := HL0.out
    rw [h1, h2]
    split <;> omega
  clear hb
  go_wp2_with fail
  go_loop [4, 5] (fun vn vi => ∃ k : Nat, k ≤ s.size ∧ vi = .int .i64 k ∧ vn = .int .i64 (((s.toList.take k).count 10 : Nat) : Int)) (fun _ vi => s.size - (RowKit.intOf vi).toNat)
  case atStart => exact ⟨0, Nat.zero_le _, rfl, rfl⟩
  case round =>
    obtain ⟨k, hk, rfl, rfl⟩ := hrel
    by_cases hlt : k < s.size
    · have HC := Lib.hid (cnt_step s k hlt)
      obtain ⟨m, hm⟩ : ∃ m, (s.toList.take k).count 10 = m := ⟨_, rfl⟩
      have hmk : m ≤ k := by rw [← hm]; exact Nat.le_trans List.count_le_length (List.length_take_le _ _)
      rw [hm] at HC ⊢
      clear hm
      by_cases h10 : s[k].toNat = 10
      · have hb10 : ((s[k].toNat : Int) == 10) = true := by simp; omega
        have HC2 : Hid ((s.toList.take (k + 1)).count 10 = m + 1) := by rw [Hid, HC.out, if_pos h10]
        clear HC h10
        go_wp2_with fail
        exact ⟨⟨k + 1, by omega, by go_num, by rw [HC2.out]; go_num⟩, by simp [RowKit.intOf]; omega⟩
      · have hb10 : ((s[k].toNat : Int) == 10) = false := by simp; omega
        have HC2 : Hid ((s.toList.take (k + 1)).count 10 = m) := by rw [Hid, HC.out, if_neg h10]; rfl
        clear HC h10
        go_wp2_with fail
        exact ⟨⟨k + 1, by omega, by go_num, by rw [HC2.out]⟩, by simp [RowKit.intOf]; omega⟩
    · obtain rfl : k = s.size := by omega
      have hsl : s.toList.length = s.size := by rw [Go.ByteArray.toList_eq]; exact Array.length_toList
      have e1 : (s.toList.take s.size).count 10 = (n0 + 15) / 16 := by rw [← hsl, List.take_length, hs.out, Dm.dump_lines, HL0.out]
      rw [e1]
      clear e1 hsl
      have hb : ((((n0 + 15) / 16 : Nat) : Int) == ((n0 : Int) + 15) / 16) = true := by simp
      by_cases hn : 0 < n0
      · go_wp2_with fail
        go_ret
        exact ⟨ret_true (by simp), HBw.out⟩
      · obtain rfl : n0 = 0 := by omega
        have hl : l0 = [] := List.eq_nil_of_length_eq_zero HL0.out
        have hse : s.toList = [] := by rw [hs.out, hl]; simp [Dm.dumpL, Dm.full]
        go_wp2_with fail
        go_ret
        exact ⟨ret_true (by simp [hse]), HBw.out⟩

/-- What the walk gives, said of whatever the row reads. -/
theorem contract (H : Type) (enc : TypeId × Value → H) (W : World) (base : Nat) (args : Array Value) (ds gs : List (DataW H)) (before : List MemPlace)
    (hval : ∀ (j : Nat) t v, Try.f6.params[j]? = some t → args[j]? = some v → Value.okWide Try.prog W .any base t v)
    (hW : DataW.Whole enc Try.prog Try.f6.params.toList Rows.fnDumpLinesSpec.vars false W args.toList ds gs before)
    (hsz : (DataW.weightsEach Try.prog (Try.f6.params.toList ++ Rows.fnDumpLinesSpec.plain.varTypes Try.prog) (ds ++ gs)).all (· ≤ reachBytes) = true) (hk : Rows.uptoBulkAll (ds ++ gs) ≤ 1048576) :
    Calls Try.prog 6 args W fun e W' => ∃ v, e = .returned v ∧ Rows.fnDumpLinesSpec.post enc Try.prog Try.f6 false true false false W args v W' := by
  have hW' := hW
  obtain ⟨p, q, hA0, hV, rfl, _, _⟩ := hW
  have hA : DataW.TrodAll enc Try.prog W 0 (fun _ => true) true Try.f6.params.toList args.toList ds p := hA0
  clear hA0
  rw [Try.params6] at hA hval hsz
  obtain ⟨v0, vs0, d0, ds0, p0, q0, hargs, rfl, rfl, h0, r0⟩ := trodAll_cons hA
  obtain ⟨rfl, rfl, rfl⟩ := trodAll_nil r0
  obtain rfl : args = #[v0] := by cases args; simp_all
  obtain ⟨rfl, rfl⟩ := trodVars_none hV
  have k0 := h0
  have lt0 : ∀ x ∈ p0, x.block < W.heap.size := by obtain ⟨m, hm⟩ := k0; exact DataW.trod_lt m _ _ _ hm
  obtain ⟨A0, n0, c0, rfl⟩ := okWide_slice Try.underlying22 (hval 0 22 v0 rfl rfl)
  obtain ⟨l0, h0r, e0, g0, u0⟩ := argB h0 (weigh hsz (j := 0) rfl rfl)
  simp only [List.append_nil, Rows.uptoBulkAll] at hk
  refine (walk A0 n0 c0 l0 W h0r e0 g0 (by omega)).mono fun e W' ⟨he, bel⟩ => ?_
  subst he
  exact ⟨_, rfl, _, _, _, [], _, [], hW', trodAll_mk1 (shut_bool Try.underlying4 _), (trodAll_cons_mk (Below.trod laidOut (by kernel_rfl) (of_decide_eq_true (by kernel_rfl)) k0 bel lt0) trodAll_mk0), rfl, bel.frame _, fun h => by cases h⟩

set_option maxRecDepth 100000 in
theorem lifted (os : Os) (started : os.Started) (H : Type) (enc : TypeId × Value → H) (F : Stop.Interp) :
    ReturnsInHanded {} Try.checked os 6 .any ((Rows.OpenSpec.upto Rows.fnDumpLinesSpec).pre6 enc Try.prog Try.f6 Rows.fnDumpLinesUptoRow.domain false) (((Rows.OpenSpec.upto Rows.fnDumpLinesSpec).at F).post enc Try.prog Try.f6 false true false false) := by
  refine returnsInHanded_of_cond_sized (C := Try.checked) (s := Rows.OpenSpec.upto Rows.fnDumpLinesSpec) (k := Rows.uptoSmall) rfl own started (by kernel_rfl) Try.func6
    (OpenSpec.witness (enc := enc) (C := Try.checked) (s := Rows.OpenSpec.upto Rows.fnDumpLinesSpec) (k := Rows.uptoSmall) rfl false ⟨#[], #[.slice none 0 0], []⟩ 8 (by kernel_rfl) (by kernel_rfl) (by kernel_rfl)
      (x := ([.nil], [], [])) (by kernel_rfl) rfl (by kernel_rfl)) ?_
  intro W base args ds gs before hval hW _ hk hsz _
  exact contract H enc W base args ds gs before hval hW hsz (of_decide_eq_true hk)

theorem over : Rows.fnDumpLinesUptoRow.holds Try.pinned (Rows.OpenSpec.upto Rows.fnDumpLinesSpec) :=
  OpenClaim.holds_of_cond 6 Try.f6 rfl rfl rfl rfl rfl rfl rfl ⟨rfl, rfl, rfl, rfl, rfl⟩ rfl rfl rfl rfl rfl (by kernel_rfl) Try.func6 (by kernel_rfl)
    (of_decide_eq_true (by kernel_rfl)) (by unfold Func.isWrapper; first | (rw [if_pos (by decide +kernel)]; kernel_rfl) | (rw [if_neg (by decide +kernel)]; exact ⟨rfl, rfl⟩))
    (fun os started H enc _ F => lifted os started H enc F)

theorem proved : Rows.FnDumpLinesUptoSaid := over
end Go.Proofs.Ytkhoifaakidfcaa.fnDumpLines
