/-
  FnDumpShown: each byte from 32 to 126 is shown as it is at the end of its line, and each other one as a point, where the arguments hold together at most 1048576 values and letters.
-/
import Derived.Test.YtkhoifaakidfcaaCommon
import Derived.Test.YtkhoifaakidfcaaDumpAll
import Derived.Test.YtkhoifaakidfcaaDumpPure2
namespace Go.Proofs.Ytkhoifaakidfcaa.fnDumpShown
open Go.ChangeShapes Go.WideShapes Go.ChangeAt Go.RowKit Go.Lib
open Go.ChangeMaps (open_string shut_string)
set_option linter.unusedVariables false

theorem at_list (s : ByteArray) (k : Nat) (hk : k < s.size) : s.toList[k]? = some s[k] := by
  rw [Go.ByteArray.toList_eq, Array.getElem?_toList, Array.getElem?_eq_getElem hk]
  rfl
theorem shown (s : ByteArray) (l : List UInt8) (h : s.toList = Dm.dumpL l) (i : Nat) (c : UInt8) (hc : l[i]? = some c) : ∃ hp : i / 16 * 79 + 61 + i % 16 < s.size, (s[i / 16 * 79 + 61 + i % 16]).toNat = if c.toNat < 32 ∨ 126 < c.toNat then 46 else c.toNat := by
  have e1 : s.toList.length = s.size := by rw [Go.ByteArray.toList_eq]; exact Array.length_toList
  have hd := Dm.dump_char l i c hc
  rw [← h] at hd
  have hlt := (List.getElem?_eq_some_iff.1 hd).1
  refine ⟨by omega, ?_⟩
  rw [at_list s _ (by omega)] at hd
  injection hd with hd
  rw [hd]
  unfold Dm.toCh
  split <;> rfl

set_option maxHeartbeats 1000000 in
set_option maxRecDepth 100000 in
theorem walk (A0 : Option Addr) (n0 c0 : Nat) (l0 : List UInt8) (w : World) (h0 : RB w A0 n0 l0) (e0 : n0 ≤ c0) (g0 : c0 ≤ 140737488351232) (hk : c0 ≤ 1048576) :
    Calls Try.prog 9 #[.slice A0 n0 c0] w fun e w' => e = .returned (.bool true) ∧ Below w.heap.size w w' := by
  have HB0 := Lib.hid h0
  have HL0 : Hid (l0.length = n0) := h0.1
  clear h0
  go_enter Try.func9, Try.ntmps9
  go_wp2_with fail
  refine (implDump _ _ _ l0 _ HB0.out e0 (by omega) (by omega)).mono ?_
  rintro e w1 ⟨s, rfl, hs, hz, hb⟩
  have HBw := Lib.hid hb
  have HB1 := Lib.hid (HB0.out.below hb)
  clear hb
  go_wp2_with fail
  go_loop [4] (fun vi => ∃ k : Nat, k ≤ n0 ∧ vi = .int .i64 k) (fun vi => n0 - (RowKit.intOf vi).toNat)
  case atStart => exact ⟨0, Nat.zero_le _, rfl⟩
  case round =>
    obtain ⟨k, hk, rfl⟩ := hrel
    by_cases hlt : k < n0
    · obtain ⟨b, o, cc, rfl, hbs, hcc, hcell⟩ := HB1.out.at_ hlt
      obtain ⟨hp, hch⟩ := shown s l0 hs.out k cc hcc
      obtain ⟨p, hpe⟩ : ∃ p, p = k / 16 * 79 + 61 + k % 16 := ⟨_, rfl⟩
      have hpi : (k : Int) / 16 * 79 + 61 + (k : Int) % 16 = (p : Int) := by omega
      obtain ⟨x, hx⟩ : ∃ x : Int, (cc.toNat : Int) = x := ⟨_, rfl⟩
      rw [hx] at hcell
      have hx0 : 0 ≤ x := by omega
      have hx1 : x < 256 := by have := cc.toNat_lt; omega
      have hps : p < s.size := by omega
      have HCh : Hid ((s[p].toNat : Int) = if x < 32 ∨ 126 < x then 46 else x) := by
        subst hpe
        rw [Hid, hch, ← hx]
        by_cases h1 : cc.toNat < 32 ∨ 126 < cc.toNat
        · rw [if_pos h1, if_pos (by omega)]; rfl
        · rw [if_neg h1, if_neg (by omega)]
      have hb1 : decide ((s.size : Int) ≤ (p : Int)) = false := by simp; omega
      have hb2 : decide (s.size ≤ p) = false := by simp; omega
      clear hch hx hpe hp hcc
      by_cases ha : x < 32
      · have hb3 : ((s[p].toNat : Int) != 46) = false := by rw [HCh.out, if_pos (by omega)]; rfl
        go_wp2_with fail
        exact ⟨⟨k + 1, by omega, by go_num⟩, by simp [RowKit.intOf]; omega⟩
      · by_cases hc : 126 < x
        · have hb3 : ((s[p].toNat : Int) != 46) = false := by rw [HCh.out, if_pos (by omega)]; rfl
          go_wp2_with fail
          exact ⟨⟨k + 1, by omega, by go_num⟩, by simp [RowKit.intOf]; omega⟩
        · have hb3 : ((s[p].toNat : Int) != x) = false := by rw [HCh.out, if_neg (by omega)]; simp
          go_wp2_with fail
          exact ⟨⟨k + 1, by omega, by go_num⟩, by simp [RowKit.intOf]; omega⟩
    · go_wp2_with fail
      go_ret
      exact ⟨rfl, HBw.out⟩

/-- What the walk gives, said of whatever the row reads. -/
theorem contract (H : Type) (enc : TypeId × Value → H) (W : World) (base : Nat) (args : Array Value) (ds gs : List (DataW H)) (before : List MemPlace)
    (hval : ∀ (j : Nat) t v, Try.f9.params[j]? = some t → args[j]? = some v → Value.okWide Try.prog W .any base t v)
    (hW : DataW.Whole enc Try.prog Try.f9.params.toList Rows.fnDumpShownSpec.vars false W args.toList ds gs before)
    (hsz : (DataW.weightsEach Try.prog (Try.f9.params.toList ++ Rows.fnDumpShownSpec.plain.varTypes Try.prog) (ds ++ gs)).all (· ≤ reachBytes) = true) (hk : Rows.uptoBulkAll (ds ++ gs) ≤ 1048576) :
    Calls Try.prog 9 args W fun e W' => ∃ v, e = .returned v ∧ Rows.fnDumpShownSpec.post enc Try.prog Try.f9 false true false false W args v W' := by
  have hW' := hW
  obtain ⟨p, q, hA0, hV, rfl, _, _⟩ := hW
  have hA : DataW.TrodAll enc Try.prog W 0 (fun _ => true) true Try.f9.params.toList args.toList ds p := hA0
  clear hA0
  rw [Try.params9] at hA hval hsz
  obtain ⟨v0, vs0, d0, ds0, p0, q0, hargs, rfl, rfl, h0, r0⟩ := trodAll_cons hA
  obtain ⟨rfl, rfl, rfl⟩ := trodAll_nil r0
  obtain rfl : args = #[v0] := by cases args; simp_all
  obtain ⟨rfl, rfl⟩ := trodVars_none hV
  have k0 := h0
  have lt0 : ∀ x ∈ p0, x.block < W.heap.size := by obtain ⟨m, hm⟩ := k0; exact DataW.trod_lt m _ _ _ hm
  obtain ⟨A0, n0, c0, rfl⟩ := okWide_slice Try.underlying22 (hval 0 22 v0 rfl rfl)
  obtain ⟨l0, h0r, e0, g0, u0⟩ := argB h0 (weigh hsz (j := 0) rfl rfl)
  simp only [List.append_nil, Rows.uptoBulkAll] at hk
  refine (walk A0 n0 c0 l0 W h0r e0 g0 (by omega)).mono fun e W' ⟨he, bel⟩ => ?_
  subst he
  exact ⟨_, rfl, _, _, _, [], _, [], hW', trodAll_mk1 (shut_bool Try.underlying4 _), (trodAll_cons_mk (Below.trod laidOut (by kernel_rfl) (of_decide_eq_true (by kernel_rfl)) k0 bel lt0) trodAll_mk0), rfl, bel.frame _, fun h => by cases h⟩

set_option maxRecDepth 100000 in
theorem lifted (os : Os) (started : os.Started) (H : Type) (enc : TypeId × Value → H) (F : Stop.Interp) :
    ReturnsInHanded {} Try.checked os 9 .any ((Rows.OpenSpec.upto Rows.fnDumpShownSpec).pre6 enc Try.prog Try.f9 Rows.fnDumpShownUptoRow.domain false) (((Rows.OpenSpec.upto Rows.fnDumpShownSpec).at F).post enc Try.prog Try.f9 false true false false) := by
  refine returnsInHanded_of_cond_sized (C := Try.checked) (s := Rows.OpenSpec.upto Rows.fnDumpShownSpec) (k := Rows.uptoSmall) rfl own started (by kernel_rfl) Try.func9
    (OpenSpec.witness (enc := enc) (C := Try.checked) (s := Rows.OpenSpec.upto Rows.fnDumpShownSpec) (k := Rows.uptoSmall) rfl false ⟨#[], #[.slice none 0 0], []⟩ 8 (by kernel_rfl) (by kernel_rfl) (by kernel_rfl)
      (x := ([.nil], [], [])) (by kernel_rfl) rfl (by kernel_rfl)) ?_
  intro W base args ds gs before hval hW _ hk hsz _
  exact contract H enc W base args ds gs before hval hW hsz (of_decide_eq_true hk)

theorem over : Rows.fnDumpShownUptoRow.holds Try.pinned (Rows.OpenSpec.upto Rows.fnDumpShownSpec) :=
  OpenClaim.holds_of_cond 9 Try.f9 rfl rfl rfl rfl rfl rfl rfl ⟨rfl, rfl, rfl, rfl, rfl⟩ rfl rfl rfl rfl rfl (by kernel_rfl) Try.func9 (by kernel_rfl)
    (of_decide_eq_true (by kernel_rfl)) (by unfold Func.isWrapper; first | (rw [if_pos (by decide +kernel)]; kernel_rfl) | (rw [if_neg (by decide +kernel)]; exact ⟨rfl, rfl⟩))
    (fun os started H enc _ F => lifted os started H enc F)

theorem proved : Rows.FnDumpShownUptoSaid := over
end Go.Proofs.Ytkhoifaakidfcaa.fnDumpShown
