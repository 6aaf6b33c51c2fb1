/-
  FnExactDecodeRest: Decode leaves what is behind, and tells the fault of the reference, for every argument that the form reaches; encoding/hex.ErrLength starts as the program lays it.
-/
import Derived.Test.YtidbhedmiebdaaaDoorCommon
import Derived.Test.YtidbhedmiebdaaaDoorSpecDec2
import Derived.Test.YtidbhedmiebdaaaDoorImplDec
import Derived.Test.YtidbhedmiebdaaaDoorCut
import Derived.Test.YtidbhedmiebdaaaDoorLaid
namespace Go.Proofs.YtidbhedmiebdaaaDoor.fnExactDecodeRest
open Go.ChangeShapes Go.WideShapes Go.ChangeAt Go.RowKit Go.Lib
open Go.ChangeMaps (open_string shut_string)
set_option linter.unusedVariables false

theorem same_yes (A : Option Addr) (n c : Nat) (l : List UInt8) (B : Option Addr) (m d : Nat) (w : World) (h : RB w A n l) (h' : RB w B m l) :
    Calls Tryd.prog 17 #[.slice A n c, .slice B m d] w fun e w' => e = .returned (.bool true) ∧ w = w' :=
  (same_any A n c l B m d l w h h').mono fun e w' ⟨he, hw⟩ => ⟨by rw [he]; simp, hw⟩

set_option maxHeartbeats 400000 in
theorem sameFault_yes (b0 b1 : Bool) (b2 : Int) (w : World) :
    Calls Tryd.prog 20 #[.agg #[.bool b0, .bool b1, .int .u8 b2], .agg #[.bool b0, .bool b1, .int .u8 b2]] w fun e w' => e = .returned (.bool true) ∧ (w.alloc (.cells #[.bool b0, .bool b1, .int .u8 b2] 26)).alloc (.cells #[.bool b0, .bool b1, .int .u8 b2] 36) = w' := by
  go_enter Tryd.func20, Tryd.ntmps20
  go_wp2
  go_ret
  exact ⟨ret_true (by simp), rfl⟩

set_option maxHeartbeats 1000000 in
set_option maxRecDepth 100000 in
theorem walk (A0 : Option Addr) (n0 c0 : Nat) (l0 : List UInt8) (A1 : Option Addr) (n1 c1 : Nat) (l1 : List UInt8) (w : World) (h0 : RB w A0 n0 l0) (e0 : n0 ≤ c0) (g0 : c0 ≤ 140737488351232) (h1 : RB w A1 n1 l1) (e1 : n1 ≤ c1) (g1 : c1 ≤ 140737488351232) (hE : ErrIs w) :
    Calls Tryd.prog 8 #[.slice A0 n0 c0, .slice A1 n1 c1] w fun e w' => e = .returned (.bool true) ∧ Below w.heap.size w w' := by
  obtain ⟨ea, hE⟩ := hE
  have HE := Lib.hid hE
  have HB0 := Lib.hid h0
  have HB1 := Lib.hid h1
  clear hE h0 h1
  go_enter Tryd.func8, Tryd.ntmps8
  by_cases hroom : (n1 : Int) / 2 ≤ (n0 : Int)
  · go_wp2_with fail
    refine (implDecode _ _ _ l0 _ _ _ l1 _ ea HB0.out HB1.out (by omega) (by omega) (by omega) HE.out).mono ?_
    rintro e w1 ⟨A, c, b0, b1, b2, rfl, hc1, hc2, hR, hd, hb0, hb1, hbb2, hbw⟩
    have hm2 : (Hx.decode l1).1.length ≤ n1 / 2 := hd.out
    have hel := hR.out.from_ (k := (Hx.decode l1).1.length) (c := c) (by omega) hc1
    rw [List.drop_left' rfl] at hel
    have hR2 := Lib.hid hel
    have hR3 := Lib.hid ((HB0.out.below hbw).from_ (k := (Hx.decode l1).1.length) (c := c0) (by omega) e0)
    generalize hm : (Hx.decode l1).1.length = m at hR2 hR3 hm2 ⊢
    have HM := Lib.hid hm
    clear hm hR hd hel
    have hB := Lib.hid (hbw.alloc hbw.size (.cells #[.bool b0, .bool b1, .int .u8 b2] 26))
    have HR := Lib.hid (hR2.out.alloc (.cells #[.bool b0, .bool b1, .int .u8 b2] 26))
    have HR' := Lib.hid (hR3.out.alloc (.cells #[.bool b0, .bool b1, .int .u8 b2] 26))
    have HC : Hid ((w1.alloc (.cells #[.bool b0, .bool b1, .int .u8 b2] 26)).cell? ⟨w1.heap.size, 0, none⟩ = some (.bool b0)) := by unfold Hid; simp [go_sem]
    have HC1 : Hid ((w1.alloc (.cells #[.bool b0, .bool b1, .int .u8 b2] 26)).cell? ⟨w1.heap.size, 1, none⟩ = some (.bool b1)) := by unfold Hid; simp [go_sem]
    have HC2 : Hid ((w1.alloc (.cells #[.bool b0, .bool b1, .int .u8 b2] 26)).cell? ⟨w1.heap.size, 2, none⟩ = some (.int .u8 b2)) := by unfold Hid; simp [go_sem]
    have HS := Lib.hid ((HB1.out.below hbw).alloc (.cells #[.bool b0, .bool b1, .int .u8 b2] 26))
    clear hbw hR2 hR3
    go_wp2_with fail
    generalize hW : w1.alloc (.cells #[.bool b0, .bool b1, .int .u8 b2] 26) = W1 at hB HR HR' HC HC1 HC2 HS ⊢
    have hsz1 : Hid (w1.heap.size < W1.heap.size) := by unfold Hid; rw [← hW]; simp
    clear hW
    refine (specDecode _ _ _ _ _ HS.out (by omega)).mono ?_
    rintro e w2 ⟨X, m', d, d0, d1, d2, rfl, gr, gm, gd1, gd2, gb0, gb1, gb2, gbw⟩
    obtain rfl : b0 = d0 := by rw [hb0.out, gb0.out]
    obtain rfl : b1 = d1 := by rw [hb1.out, gb1.out]
    obtain rfl : b2 = d2 := by rw [hbb2.out, gb2.out]
    have hsz2 : w1.heap.size < w2.heap.size := by have := gbw.size; have := hsz1.out; omega
    have k0 := (gbw.cell (p := ⟨w1.heap.size, 0, none⟩) hsz1.out).trans HC.out
    have k1 := (gbw.cell (p := ⟨w1.heap.size, 1, none⟩) hsz1.out).trans HC1.out
    have k2 := (gbw.cell (p := ⟨w1.heap.size, 2, none⟩) hsz1.out).trans HC2.out
    have HRa := Lib.hid ((HR.out.below gbw).alloc (.cells #[.bool b0, .bool b1, .int .u8 b2] 36))
    have HRb := Lib.hid ((HR'.out.below gbw).alloc (.cells #[.bool b0, .bool b1, .int .u8 b2] 36))
    have hB3 := Lib.hid ((hB.out.trans (gbw.mono hB.out.size)).alloc (Nat.le_trans hB.out.size gbw.size) (.cells #[.bool b0, .bool b1, .int .u8 b2] 36))
    have hs := run_from A n0 c (m : Int) (by omega) (by omega)
    have hs' := run_from A0 n0 c0 (m : Int) (by omega) (by omega)
    simp only [Int.toNat_natCast] at hs hs'
    generalize cutA A c m = X1 at hs HRa HR
    generalize cutA A0 c0 m = Y1 at hs' HRb HR'
    have hml : (m : Int) ≤ (n0 : Int) := by omega
    have r0 := (World.cell?_alloc_lt w2 (.cells #[.bool b0, .bool b1, .int .u8 b2] 36) ⟨w1.heap.size, 0, none⟩ hsz2).trans k0
    have r1 := (World.cell?_alloc_lt w2 (.cells #[.bool b0, .bool b1, .int .u8 b2] 36) ⟨w1.heap.size, 1, none⟩ hsz2).trans k1
    have r2 := (World.cell?_alloc_lt w2 (.cells #[.bool b0, .bool b1, .int .u8 b2] 36) ⟨w1.heap.size, 2, none⟩ hsz2).trans k2
    have u0 : (w2.alloc (.cells #[.bool b0, .bool b1, .int .u8 b2] 36)).cell? ⟨w2.heap.size, 0, none⟩ = some (.bool b0) := by simp [go_sem]
    have u1 : (w2.alloc (.cells #[.bool b0, .bool b1, .int .u8 b2] 36)).cell? ⟨w2.heap.size, 1, none⟩ = some (.bool b1) := by simp [go_sem]
    have u2 : (w2.alloc (.cells #[.bool b0, .bool b1, .int .u8 b2] 36)).cell? ⟨w2.heap.size, 2, none⟩ = some (.int .u8 b2) := by simp [go_sem]
    clear gbw
    go_wp2_with fail
    generalize hW3 : w2.alloc (.cells #[.bool b0, .bool b1, .int .u8 b2] 36) = W3 at HRa HRb hB3 r0 r1 r2 u0 u1 u2 ⊢
    have v1 : w1.heap.size < W3.heap.size := by rw [← hW3]; simp; omega
    have v2 : w2.heap.size < W3.heap.size := by rw [← hW3]; simp
    clear hW3
    go_region_held3 (fun w' => w'.cell? ⟨w1.heap.size, 0, none⟩ = some (.bool b0) ∧ w'.cell? ⟨w1.heap.size, 1, none⟩ = some (.bool b1) ∧ w'.cell? ⟨w1.heap.size, 2, none⟩ = some (.int .u8 b2) ∧ w'.cell? ⟨w2.heap.size, 0, none⟩ = some (.bool b0) ∧ w'.cell? ⟨w2.heap.size, 1, none⟩ = some (.bool b1) ∧ w'.cell? ⟨w2.heap.size, 2, none⟩ = some (.int .u8 b2))
      (first | go_keep)
      (first
        | (go_simp; go_at_call 17; refine (same_yes _ _ _ _ _ _ _ _ (by exact HRa.out) (by exact HRb.out)).mono ?_; rintro e w' ⟨rfl, rfl⟩)
        | (go_simp; go_at_call 20; refine (sameFault_yes _ _ _ _).mono ?_; rintro e w' ⟨rfl, rfl⟩))
    go_wp2_with fail
    go_ret
    exact ⟨ret_true (by simp), ((hB3.out.drew).alloc hB3.out.size _).alloc (Nat.le_trans hB3.out.size (by simp)) _⟩
  · go_wp2_with fail
    go_ret
    exact ⟨ret_true rfl, Below.refl _ _⟩

/-- What the walk gives, said of whatever the row reads. -/
theorem contract (H : Type) (enc : TypeId × Value → H) (W : World) (base : Nat) (args : Array Value) (ds gs : List (DataW H)) (before : List MemPlace)
    (hval : ∀ (j : Nat) t v, Tryd.f8.params[j]? = some t → args[j]? = some v → Value.okWide Tryd.prog W .any base t v)
    (hW : DataW.Whole enc Tryd.prog Tryd.f8.params.toList Rows.fnExactDecodeRestSpec.vars false W args.toList ds gs before)
    (hsz : (DataW.weightsEach Tryd.prog (Tryd.f8.params.toList ++ Rows.fnExactDecodeRestSpec.plain.varTypes Tryd.prog) (ds ++ gs)).all (· ≤ reachBytes) = true) (hE : ErrIs W) :
    Calls Tryd.prog 8 args W fun e W' => ∃ v, e = .returned v ∧ Rows.fnExactDecodeRestSpec.post enc Tryd.prog Tryd.f8 false true false false W args v W' := by
  have hW' := hW
  obtain ⟨p, q, hA0, hV, rfl, _, _⟩ := hW
  have hA : DataW.TrodAll enc Tryd.prog W 0 (fun _ => true) true Tryd.f8.params.toList args.toList ds p := hA0
  clear hA0
  rw [Tryd.params8] at hA hval hsz
  obtain ⟨v0, vs0, d0, ds0, p0, q0, hargs, rfl, rfl, h0, r0⟩ := trodAll_cons hA
  obtain ⟨v1, vs1, d1, ds1, p1, q1, rfl, rfl, rfl, h1, r1⟩ := trodAll_cons r0
  obtain ⟨rfl, rfl, rfl⟩ := trodAll_nil r1
  obtain rfl : args = #[v0, v1] := by cases args; simp_all
  obtain ⟨rfl, rfl⟩ := trodVars_none hV
  have k0 := h0
  have lt0 : ∀ x ∈ p0, x.block < W.heap.size := by obtain ⟨m, hm⟩ := k0; exact DataW.trod_lt m _ _ _ hm
  have k1 := h1
  have lt1 : ∀ x ∈ p1, x.block < W.heap.size := by obtain ⟨m, hm⟩ := k1; exact DataW.trod_lt m _ _ _ hm
  obtain ⟨A0, n0, c0, rfl⟩ := okWide_slice Tryd.underlying22 (hval 0 22 v0 rfl rfl)
  obtain ⟨l0, h0r, e0, g0, u0⟩ := argB h0 (weigh hsz (j := 0) rfl rfl)
  obtain ⟨A1, n1, c1, rfl⟩ := okWide_slice Tryd.underlying22 (hval 1 22 v1 rfl rfl)
  obtain ⟨l1, h1r, e1, g1, u1⟩ := argB h1 (weigh hsz (j := 1) rfl rfl)
  refine (walk A0 n0 c0 l0 A1 n1 c1 l1 W h0r e0 g0 h1r e1 g1 hE).mono fun e W' ⟨he, bel⟩ => ?_
  subst he
  exact ⟨_, rfl, _, _, _, [], _, [], hW', trodAll_mk1 (shut_bool Tryd.underlying4 _), (trodAll_cons_mk (Below.trod laidOut (by kernel_rfl) (of_decide_eq_true (by kernel_rfl)) k0 bel lt0) (trodAll_cons_mk (Below.trod laidOut (by kernel_rfl) (of_decide_eq_true (by kernel_rfl)) k1 bel lt1) trodAll_mk0)), rfl, bel.frame _, fun h => by cases h⟩

theorem reads (os : Os) {H : Type} (enc : TypeId × Value → H) : ∃ places, DataW.whole enc Tryd.prog ((World.doorLaid Tryd.prog 400 os).forCall (fun _ _ => 0) ⟨#[], #[.slice none 0 0, .slice none 0 0], []⟩).memory Tryd.f8.params.toList Rows.fnExactDecodeRestSpec.vars false (#[.slice none 0 0, .slice none 0 0] : Array Value).toList 8 = some ([.nil, .nil], [], places) :=
  ⟨[], by kernel_rfl⟩

set_option maxRecDepth 100000 in
theorem lifted (os : Os) (started : os.Started) (H : Type) (enc : TypeId × Value → H) (F : Stop.Interp) :
    ReturnsInHanded {} Tryd.checked os 8 .any ((OpenSpec.ofChange Rows.fnExactDecodeRestSpec).preRow enc Tryd.prog Tryd.f8 Rows.fnExactDecodeRestRow.domain false Rows.fnExactDecodeRestRow.laid) (((OpenSpec.ofChange Rows.fnExactDecodeRestSpec).at F).post enc Tryd.prog Tryd.f8 false true false false) := by
  obtain ⟨places, hx⟩ := reads os enc
  refine returnsInHanded_of_row (C := Tryd.checked) (s := OpenSpec.ofChange Rows.fnExactDecodeRestSpec) own started (by kernel_rfl) Tryd.func8
    (witness_row_atRef (enc := enc) (C := Tryd.checked) false (World.doorLaid Tryd.prog 400 os) #[.slice none 0 0, .slice none 0 0] rfl (by kernel_rfl) (by kernel_rfl) (by kernel_rfl)
      (OpenSpec.preRow_of_cond 8 hx (by kernel_rfl) (fun k hk => by cases hk) (by kernel_rfl) (door_met os _))) ?_
  intro W base args ds gs before hval hW _ _ hsz hL _ _
  exact contract H enc W base args ds gs before hval hW hsz (errIs_of hL)

theorem over : Rows.FnExactDecodeRestSaid :=
  OpenClaim.holds_of_cond 8 Tryd.f8 rfl rfl rfl rfl rfl rfl rfl ⟨rfl, rfl, rfl, rfl, rfl⟩ rfl rfl rfl rfl rfl (by kernel_rfl) Tryd.func8 (by kernel_rfl)
    (of_decide_eq_true (by kernel_rfl)) (by unfold Func.isWrapper; first | (rw [if_pos (by decide +kernel)]; kernel_rfl) | (rw [if_neg (by decide +kernel)]; exact ⟨rfl, rfl⟩))
    (fun os started H enc _ F => by rw [OpenClaim.pre_eq_preRow]; exact lifted os started H enc F)

theorem plain (f : FuncId) (fn : Func) (hf : Tryd.pinned.checked.prog.funcNamed Rows.fnExactDecodeRestRow.func = some f) (hfn : Tryd.pinned.checked.prog.funcs[f]? = some fn) :
    true = Tryd.pinned.checked.prog.looks [] ∧ ∀ (j : Nat) t, fn.params[j]? = some t → Tryd.pinned.checked.prog.wantsStandIn t = false := by
  obtain rfl : f = 8 := Option.some.inj ((show Tryd.prog.funcNamed Rows.fnExactDecodeRestRow.func = some 8 by kernel_rfl).symm.trans hf) |>.symm
  obtain rfl : fn = Tryd.f8 := (Option.some.inj (Tryd.func8.symm.trans hfn)).symm
  refine ⟨by kernel_rfl, fun j t ht => ?_⟩
  rw [Tryd.params8] at ht
  have hm := Array.mem_of_getElem? ht
  simp at hm
  first
    | (subst hm; exact (show Tryd.prog.wantsStandIn _ = false by kernel_rfl))
    | (rcases hm with rfl | rfl <;> exact (show Tryd.prog.wantsStandIn _ = false by kernel_rfl))
    | (rcases hm with rfl | rfl | rfl <;> exact (show Tryd.prog.wantsStandIn _ = false by kernel_rfl))

theorem proved : Rows.FnExactDecodeRestCardSaid :=
  Claim7.holds_tied_plain_at .later [] _ _ _ _ over (fun _ h => by cases h) (by kernel_rfl) (fun _ h => by cases h) fnExactDecodeRest_row_tie rfl ⟨rfl, rfl⟩ (by kernel_rfl) rfl plain (by kernel_rfl)
end Go.Proofs.YtidbhedmiebdaaaDoor.fnExactDecodeRest
