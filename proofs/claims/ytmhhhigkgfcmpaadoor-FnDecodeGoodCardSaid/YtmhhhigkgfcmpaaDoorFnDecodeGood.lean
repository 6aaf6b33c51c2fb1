/-
  FnDecodeGood: there is no fault exactly for texts of even length with digits alone, for every argument that the form reaches; encoding/hex.ErrLength starts as the program lays it.
-/
import Derived.Test.YtmhhhigkgfcmpaaDoorCommon
import Derived.Test.YtmhhhigkgfcmpaaDoorDigit
import Derived.Test.YtmhhhigkgfcmpaaDoorLaid
namespace Go.Proofs.YtmhhhigkgfcmpaaDoor.fnDecodeGood
open Go.ChangeShapes Go.WideShapes Go.ChangeAt Go.RowKit Go.Lib
open Go.ChangeMaps (open_string shut_string)
set_option linter.unusedVariables false

def allD (l : List UInt8) (b : Bool) (k : Nat) : Bool := b && (l.take k).all digB
theorem allD_step (s : ByteArray) (b : Bool) (k : Nat) (hk : k < s.size) : allD s.toList b (k + 1) = (allD s.toList b k && digB s[k]) := by
  have hk' : k < s.toList.length := by rw [Go.ByteArray.toList_eq, Array.length_toList]; exact hk
  unfold allD
  rw [List.take_succ_eq_append_getElem hk', List.all_append, ← Bool.and_assoc]
  congr 1
  have e : s.toList[k]'hk' = s[k] := by
    have : s.toList[k]? = some s[k] := by
      rw [Go.ByteArray.toList_eq, Array.getElem?_toList, Array.getElem?_eq_getElem hk]
      rfl
    rw [List.getElem?_eq_getElem hk'] at this
    exact Option.some.inj this
  simp [e]
theorem allD_bad (s : ByteArray) : (Hex.bad (Hx.decode s.toList).2 != allD s.toList ((s.size : Int) % 2 == 0) s.size) = true := by
  have hl : s.toList.length = s.size := by rw [Go.ByteArray.toList_eq]; exact Array.length_toList
  have h := Hex.good_iff s.toList
  have h2 : allD s.toList ((s.size : Int) % 2 == 0) s.size = true ↔ s.toList.length % 2 = 0 ∧ ∀ c ∈ s.toList, Hx.v c ≤ 15 := by
    unfold allD
    rw [← hl, List.take_length]
    simp only [Bool.and_eq_true, beq_iff_eq, List.all_eq_true, digB_iff]
    constructor
    · intro ⟨a, b⟩; exact ⟨by omega, b⟩
    · intro ⟨a, b⟩; exact ⟨by omega, b⟩
  rw [← h2] at h
  cases h3 : Hex.bad (Hx.decode s.toList).2 <;> cases h4 : allD s.toList ((s.size : Int) % 2 == 0) s.size <;> simp [h3, h4] at h ⊢

set_option maxHeartbeats 1000000 in
set_option maxRecDepth 100000 in
theorem walk (s0 : ByteArray) (w : World) (g0 : s0.size ≤ 140737488351232) (hE : ErrIs w) :
    Calls Tryd.prog 3 #[.string s0] w fun e w' => e = .returned (.bool true) ∧ Below w.heap.size w w' := by
  obtain ⟨ea, hE⟩ := hE
  have HE := Lib.hid hE
  clear hE
  go_enter Tryd.func3, Tryd.ntmps3
  go_wp2_with fail
  refine (decText s0 _ ea HE.out (by omega)).mono ?_
  rintro e w1 ⟨A, n, c, b0, b1, b2, rfl, hr, hn, hc1, hc2, hn2, hb0, hb1, hb2, hbw, hE1⟩
  have hB := Lib.hid (hbw.alloc hbw.size (.cells #[.bool b0, .bool b1, .int .u8 b2] 24))
  go_wp2_with fail
  go_loop [5, 6] (fun g i => ∃ k : Nat, k ≤ s0.size ∧ i = .int .i64 k ∧ g = .bool (allD s0.toList ((s0.size : Int) % 2 == 0) k)) (fun _ i => s0.size - (intOf i).toNat)
  case atStart => exact ⟨0, Nat.zero_le _, rfl, by simp [allD]⟩
  case round =>
    obtain ⟨k, hk, rfl, rfl⟩ := hrel
    by_cases hlt : k < s0.size
    · have hst := Lib.hid (allD_step s0 ((s0.size : Int) % 2 == 0) k hlt)
      cases hg : allD s0.toList ((s0.size : Int) % 2 == 0) k
      all_goals
        have HG := Lib.hid hg
        clear hg
        go_wp2_with (go_at_call 16; refine (digit_any _ _).mono ?_; rintro e w' ⟨rfl, rfl⟩)
        exact ⟨⟨k + 1, by omega, by go_num, by rw [hst.out, HG.out]; simp⟩, by simp [intOf]; omega⟩
    · obtain rfl : k = s0.size := by omega
      have q := allD_bad s0
      rw [← hb0.out] at q
      go_wp2_with fail
      go_ret
      refine ⟨ret_true ?_, hB.out⟩
      exact q

/-- What the walk gives, said of whatever the row reads. -/
theorem contract (H : Type) (enc : TypeId × Value → H) (W : World) (base : Nat) (args : Array Value) (ds gs : List (DataW H)) (before : List MemPlace)
    (hval : ∀ (j : Nat) t v, Tryd.f3.params[j]? = some t → args[j]? = some v → Value.okWide Tryd.prog W .any base t v)
    (hW : DataW.Whole enc Tryd.prog Tryd.f3.params.toList Rows.fnDecodeGoodSpec.vars false W args.toList ds gs before)
    (hsz : (DataW.weightsEach Tryd.prog (Tryd.f3.params.toList ++ Rows.fnDecodeGoodSpec.plain.varTypes Tryd.prog) (ds ++ gs)).all (· ≤ reachBytes) = true) (hE : ErrIs W) :
    Calls Tryd.prog 3 args W fun e W' => ∃ v, e = .returned v ∧ Rows.fnDecodeGoodSpec.post enc Tryd.prog Tryd.f3 false true false false W args v W' := by
  have hW' := hW
  obtain ⟨p, q, hA0, hV, rfl, _, _⟩ := hW
  have hA : DataW.TrodAll enc Tryd.prog W 0 (fun _ => true) true Tryd.f3.params.toList args.toList ds p := hA0
  clear hA0
  rw [Tryd.params3] at hA hval hsz
  obtain ⟨v0, vs0, d0, ds0, p0, q0, hargs, rfl, rfl, h0, r0⟩ := trodAll_cons hA
  obtain ⟨rfl, rfl, rfl⟩ := trodAll_nil r0
  obtain rfl : args = #[v0] := by cases args; simp_all
  obtain ⟨rfl, rfl⟩ := trodVars_none hV
  have k0 := h0
  have lt0 : ∀ x ∈ p0, x.block < W.heap.size := by obtain ⟨m, hm⟩ := k0; exact DataW.trod_lt m _ _ _ hm
  obtain ⟨s0, rfl, rfl, rfl, w0⟩ := open_string Tryd.underlying9 (hval 0 9 v0 rfl rfl) h0
  obtain ⟨g0, u0⟩ := argS (H := H) (weigh hsz (j := 0) rfl rfl)
  refine (walk s0 W g0 hE).mono fun e W' ⟨he, bel⟩ => ?_
  subst he
  exact ⟨_, rfl, _, _, _, [], _, [], hW', trodAll_mk1 (shut_bool Tryd.underlying4 _), (trodAll_cons_mk (Below.trod laidOut (by kernel_rfl) (of_decide_eq_true (by kernel_rfl)) k0 bel lt0) trodAll_mk0), rfl, bel.frame _, fun h => by cases h⟩

theorem reads (os : Os) {H : Type} (enc : TypeId × Value → H) : ∃ places, DataW.whole enc Tryd.prog ((World.doorLaid Tryd.prog 400 os).forCall (fun _ _ => 0) ⟨#[], #[.string ⟨#[]⟩], []⟩).memory Tryd.f3.params.toList Rows.fnDecodeGoodSpec.vars false (#[.string ⟨#[]⟩] : Array Value).toList 8 = some ([.lit (.string [])], [], places) :=
  ⟨[], by kernel_rfl⟩

set_option maxRecDepth 100000 in
theorem lifted (os : Os) (started : os.Started) (H : Type) (enc : TypeId × Value → H) (F : Stop.Interp) :
    ReturnsInHanded {} Tryd.checked os 3 .any ((OpenSpec.ofChange Rows.fnDecodeGoodSpec).preRow enc Tryd.prog Tryd.f3 Rows.fnDecodeGoodRow.domain false Rows.fnDecodeGoodRow.laid) (((OpenSpec.ofChange Rows.fnDecodeGoodSpec).at F).post enc Tryd.prog Tryd.f3 false true false false) := by
  obtain ⟨places, hx⟩ := reads os enc
  refine returnsInHanded_of_row (C := Tryd.checked) (s := OpenSpec.ofChange Rows.fnDecodeGoodSpec) own started (by kernel_rfl) Tryd.func3
    (witness_row_atRef (enc := enc) (C := Tryd.checked) false (World.doorLaid Tryd.prog 400 os) #[.string ⟨#[]⟩] rfl (by kernel_rfl) (by kernel_rfl) (by kernel_rfl)
      (OpenSpec.preRow_of_cond 8 hx (by kernel_rfl) (fun k hk => by cases hk) (by kernel_rfl) (door_met os _))) ?_
  intro W base args ds gs before hval hW _ _ hsz hL _ _
  exact contract H enc W base args ds gs before hval hW hsz (errIs_of hL)

theorem over : Rows.FnDecodeGoodSaid :=
  OpenClaim.holds_of_cond 3 Tryd.f3 rfl rfl rfl rfl rfl rfl rfl ⟨rfl, rfl, rfl, rfl, rfl⟩ rfl rfl rfl rfl rfl (by kernel_rfl) Tryd.func3 (by kernel_rfl)
    (of_decide_eq_true (by kernel_rfl)) (by unfold Func.isWrapper; first | (rw [if_pos (by decide +kernel)]; kernel_rfl) | (rw [if_neg (by decide +kernel)]; exact ⟨rfl, rfl⟩))
    (fun os started H enc _ F => by rw [OpenClaim.pre_eq_preRow]; exact lifted os started H enc F)

theorem plain (f : FuncId) (fn : Func) (hf : Tryd.pinned.checked.prog.funcNamed Rows.fnDecodeGoodRow.func = some f) (hfn : Tryd.pinned.checked.prog.funcs[f]? = some fn) :
    true = Tryd.pinned.checked.prog.looks [] ∧ ∀ (j : Nat) t, fn.params[j]? = some t → Tryd.pinned.checked.prog.wantsStandIn t = false := by
  obtain rfl : f = 3 := Option.some.inj ((show Tryd.prog.funcNamed Rows.fnDecodeGoodRow.func = some 3 by kernel_rfl).symm.trans hf) |>.symm
  obtain rfl : fn = Tryd.f3 := (Option.some.inj (Tryd.func3.symm.trans hfn)).symm
  refine ⟨by kernel_rfl, fun j t ht => ?_⟩
  rw [Tryd.params3] at ht
  have hm := Array.mem_of_getElem? ht
  simp at hm
  first
    | (subst hm; exact (show Tryd.prog.wantsStandIn _ = false by kernel_rfl))
    | (rcases hm with rfl | rfl <;> exact (show Tryd.prog.wantsStandIn _ = false by kernel_rfl))
    | (rcases hm with rfl | rfl | rfl <;> exact (show Tryd.prog.wantsStandIn _ = false by kernel_rfl))

theorem proved : Rows.FnDecodeGoodCardSaid :=
  Claim7.holds_tied_plain_at .later [] _ _ _ _ over (fun _ h => by cases h) (by kernel_rfl) (fun _ h => by cases h) fnDecodeGood_row_tie rfl ⟨rfl, rfl⟩ (by kernel_rfl) rfl plain (by kernel_rfl)
end Go.Proofs.YtmhhhigkgfcmpaaDoor.fnDecodeGood
