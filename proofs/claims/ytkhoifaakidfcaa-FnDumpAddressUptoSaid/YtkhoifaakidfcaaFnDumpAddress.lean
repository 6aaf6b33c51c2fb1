/-
  FnDumpAddress: of the first 1048576 bytes, each line begins with the number of bytes ahead of it, in eight digits, where the arguments hold together at most 1048576 values and letters.
-/
import Derived.Test.YtkhoifaakidfcaaCommon
import Derived.Test.YtkhoifaakidfcaaDumpAll
import Derived.Test.YtkhoifaakidfcaaDumpPure2
namespace Go.Proofs.Ytkhoifaakidfcaa.fnDumpAddress
open Go.ChangeShapes Go.WideShapes Go.ChangeAt Go.RowKit Go.Lib
open Go.ChangeMaps (open_string shut_string)
set_option linter.unusedVariables false

theorem adr_at (s : ByteArray) (l : List UInt8) (h : s.toList = Dm.dumpL l) (k : Nat) (hk : k < l.length) (h16 : k % 16 = 0) (p : Nat) (hp : p = k / 16 * 79) : p + 8 ≤ s.size ∧ (s.extract p (p + 8)).toList = Dm.adr k := by
  have e1 : s.toList.length = s.size := by rw [Go.ByteArray.toList_eq]; exact Array.length_toList
  obtain ⟨x, y, e, hx⟩ := Dm.dump_adr l (k / 16) (by omega)
  rw [← h, show 16 * (k / 16) = k by omega] at e
  have he := Dm.adr_len k
  constructor
  · rw [← e1, e]; simp only [List.length_append]; omega
  · rw [ext_list, e, List.drop_append_of_le_length (by omega), List.drop_of_length_le (by omega), List.nil_append, show p + 8 - p = 8 by omega, List.take_append_of_le_length (by omega), List.take_of_length_le (by omega)]
theorem four (w : World) (k : Nat) (hk : k < 1048576) : RB (w.alloc (.cells #[.int .u8 ((k : Int) / 16777216), .int .u8 ((k : Int) / 65536), .int .u8 ((k : Int) / 256 % 256), .int .u8 ((k : Int) % 256)] 5)) (some ⟨w.heap.size, 0, none⟩) 4 [UInt8.ofNat (k / 16777216), UInt8.ofNat (k / 65536), UInt8.ofNat (k / 256), UInt8.ofNat k] :=
  ⟨rfl, fun _ => ⟨w.heap.size, 0, rfl, by simp, fun i c hi => by
    match i with
    | 0 => simp at hi; subst hi; rw [cell_of_row _ _ _ _ _ (0, 0) (heap_alloc_new w _), ofNat_int, show ((k / 16777216 : Nat) : Int) % 256 = (k : Int) / 16777216 by omega]; rfl
    | 1 => simp at hi; subst hi; rw [cell_of_row _ _ _ _ _ (0, 0) (heap_alloc_new w _), ofNat_int, show ((k / 65536 : Nat) : Int) % 256 = (k : Int) / 65536 by omega]; rfl
    | 2 => simp at hi; subst hi; rw [cell_of_row _ _ _ _ _ (0, 0) (heap_alloc_new w _), ofNat_int]; rfl
    | 3 => simp at hi; subst hi; rw [cell_of_row _ _ _ _ _ (0, 0) (heap_alloc_new w _), ofNat_int]; rfl
    | i + 4 => simp at hi⟩⟩

set_option maxHeartbeats 1000000 in
set_option maxRecDepth 100000 in
theorem walk (A0 : Option Addr) (n0 c0 : Nat) (l0 : List UInt8) (w : World) (h0 : RB w A0 n0 l0) (e0 : n0 ≤ c0) (g0 : c0 ≤ 140737488351232) (hk : c0 ≤ 1048576) :
    Calls Try.prog 13 #[.slice A0 n0 c0] w fun e w' => e = .returned (.bool true) ∧ Below w.heap.size w w' := by
  have HB := Lib.hid h0
  have HL0 : Hid (l0.length = n0) := h0.1
  clear h0
  go_enter Try.func13, Try.ntmps13
  go_wp2_with fail
  refine (implDump _ _ _ l0 _ HB.out e0 (by omega) (by omega)).mono ?_
  rintro e w1 ⟨s, rfl, hs, hz, hb⟩
  have HBw := Lib.hid hb
  have hz3 : s.size ≤ 281474976710656 := by
    have h1 := hz.out
    have h2 := Dm.dump_len l0
    have h3 := HL0.out
    rw [h1, h2]
    split <;> omega
  clear hb
  go_wp2_with fail
  go_loopw [4] (fun i wr => ∃ k : Nat, k ≤ n0 + 15 ∧ i = .int .i64 k ∧ Hid (k % 16 = 0) ∧ Hid (Below w1.heap.size w1 wr)) (fun i _ => n0 + 16 - (RowKit.intOf i).toNat)
  case atStart => exact ⟨0, Nat.zero_le _, rfl, rfl, Below.refl _ _⟩
  case round =>
    obtain ⟨k, hk, rfl, h16, hbr⟩ := hrel
    by_cases hlt : k < n0
    · have hlt2 : (k : Int) < 1048576 := by omega
      obtain ⟨p, hpe⟩ : ∃ p, p = k / 16 * 79 := ⟨_, rfl⟩
      obtain ⟨hp2, hex⟩ := adr_at s l0 hs.out k (by rw [HL0.out]; exact hlt) h16.out p hpe
      have HX := Lib.hid hex
      have hpi : (k : Int) / 16 * 79 = (p : Int) := by omega
      have H1 := Lib.hid (four wr k (by omega)).drew
      clear hex hpe
      have p2 : IntKind.i64.wrap ((p : Int) + 8) = (p : Int) + 8 := IntWalk.i64_in _ (by omega)
      have p4 : 0 ≤ (p : Int) := by omega
      have p5 : (p : Int) ≤ (p : Int) + 8 := by omega
      have p6 : (p : Int) + 8 ≤ (s.size : Int) := by omega
      have p8 : decide ((s.size : Int) < (p : Int) + 8) = false := by simp; omega
      have p9 : decide (s.size < p + 8) = false := by simp; omega
      go_wp2_with fail
      go_region_held3 (fun _ => True) (trivial) (first | (go_at_call 15; refine (encodeText _ _ _ [UInt8.ofNat (k / 16777216), UInt8.ofNat (k / 65536), UInt8.ofNat (k / 256), UInt8.ofNat k] _ (by exact H1.out) (by omega)).mono ?_; rintro e w2 ⟨u, rfl, hu, hzu, hbu⟩))
      have q : (!((s.extract p (p + 8)).toList == u.toList)) = false := by
        rw [Bool.not_eq_false', beq_iff_eq, hu.out, HX.out]
        rfl
      have hbx : Hid (Below w1.heap.size w1 w2) := ((hbr.out.alloc hbr.out.size _).drew).trans (hbu.mono (by simp; have := hbr.out.size; omega))
      have Q := Lib.hid q
      clear p2 p4 p5 p6 p8 p9 hpi q hu hzu hbu H1 HX hlt2 hp2
      go_wp2_with fail
      · have hh : (!((s.extract p (p + 8)).toList == u.toList)) = true := by assumption
        rw [Q.out] at hh
        cases hh
      · exact ⟨⟨k + 16, by omega, by go_num, by have := h16.out; simp only [Hid]; omega, hbx⟩, by simp [RowKit.intOf]; omega⟩
    · go_wp2_with fail
      go_ret
      exact ⟨rfl, HBw.out.trans (hbr.out.mono HBw.out.size)⟩

/-- What the walk gives, said of whatever the row reads. -/
theorem contract (H : Type) (enc : TypeId × Value → H) (W : World) (base : Nat) (args : Array Value) (ds gs : List (DataW H)) (before : List MemPlace)
    (hval : ∀ (j : Nat) t v, Try.f13.params[j]? = some t → args[j]? = some v → Value.okWide Try.prog W .any base t v)
    (hW : DataW.Whole enc Try.prog Try.f13.params.toList Rows.fnDumpAddressSpec.vars false W args.toList ds gs before)
    (hsz : (DataW.weightsEach Try.prog (Try.f13.params.toList ++ Rows.fnDumpAddressSpec.plain.varTypes Try.prog) (ds ++ gs)).all (· ≤ reachBytes) = true) (hk : Rows.uptoBulkAll (ds ++ gs) ≤ 1048576) :
    Calls Try.prog 13 args W fun e W' => ∃ v, e = .returned v ∧ Rows.fnDumpAddressSpec.post enc Try.prog Try.f13 false true false false W args v W' := by
  have hW' := hW
  obtain ⟨p, q, hA0, hV, rfl, _, _⟩ := hW
  have hA : DataW.TrodAll enc Try.prog W 0 (fun _ => true) true Try.f13.params.toList args.toList ds p := hA0
  clear hA0
  rw [Try.params13] at hA hval hsz
  obtain ⟨v0, vs0, d0, ds0, p0, q0, hargs, rfl, rfl, h0, r0⟩ := trodAll_cons hA
  obtain ⟨rfl, rfl, rfl⟩ := trodAll_nil r0
  obtain rfl : args = #[v0] := by cases args; simp_all
  obtain ⟨rfl, rfl⟩ := trodVars_none hV
  have k0 := h0
  have lt0 : ∀ x ∈ p0, x.block < W.heap.size := by obtain ⟨m, hm⟩ := k0; exact DataW.trod_lt m _ _ _ hm
  obtain ⟨A0, n0, c0, rfl⟩ := okWide_slice Try.underlying22 (hval 0 22 v0 rfl rfl)
  obtain ⟨l0, h0r, e0, g0, u0⟩ := argB h0 (weigh hsz (j := 0) rfl rfl)
  simp only [List.append_nil, Rows.uptoBulkAll] at hk
  refine (walk A0 n0 c0 l0 W h0r e0 g0 (by omega)).mono fun e W' ⟨he, bel⟩ => ?_
  subst he
  exact ⟨_, rfl, _, _, _, [], _, [], hW', trodAll_mk1 (shut_bool Try.underlying4 _), (trodAll_cons_mk (Below.trod laidOut (by kernel_rfl) (of_decide_eq_true (by kernel_rfl)) k0 bel lt0) trodAll_mk0), rfl, bel.frame _, fun h => by cases h⟩

set_option maxRecDepth 100000 in
theorem lifted (os : Os) (started : os.Started) (H : Type) (enc : TypeId × Value → H) (F : Stop.Interp) :
    ReturnsInHanded {} Try.checked os 13 .any ((Rows.OpenSpec.upto Rows.fnDumpAddressSpec).pre6 enc Try.prog Try.f13 Rows.fnDumpAddressUptoRow.domain false) (((Rows.OpenSpec.upto Rows.fnDumpAddressSpec).at F).post enc Try.prog Try.f13 false true false false) := by
  refine returnsInHanded_of_cond_sized (C := Try.checked) (s := Rows.OpenSpec.upto Rows.fnDumpAddressSpec) (k := Rows.uptoSmall) rfl own started (by kernel_rfl) Try.func13
    (OpenSpec.witness (enc := enc) (C := Try.checked) (s := Rows.OpenSpec.upto Rows.fnDumpAddressSpec) (k := Rows.uptoSmall) rfl false ⟨#[], #[.slice none 0 0], []⟩ 8 (by kernel_rfl) (by kernel_rfl) (by kernel_rfl)
      (x := ([.nil], [], [])) (by kernel_rfl) rfl (by kernel_rfl)) ?_
  intro W base args ds gs before hval hW _ hk hsz _
  exact contract H enc W base args ds gs before hval hW hsz (of_decide_eq_true hk)

theorem over : Rows.fnDumpAddressUptoRow.holds Try.pinned (Rows.OpenSpec.upto Rows.fnDumpAddressSpec) :=
  OpenClaim.holds_of_cond 13 Try.f13 rfl rfl rfl rfl rfl rfl rfl ⟨rfl, rfl, rfl, rfl, rfl⟩ rfl rfl rfl rfl rfl (by kernel_rfl) Try.func13 (by kernel_rfl)
    (of_decide_eq_true (by kernel_rfl)) (by unfold Func.isWrapper; first | (rw [if_pos (by decide +kernel)]; kernel_rfl) | (rw [if_neg (by decide +kernel)]; exact ⟨rfl, rfl⟩))
    (fun os started H enc _ F => lifted os started H enc F)

theorem proved : Rows.FnDumpAddressUptoSaid := over
end Go.Proofs.Ytkhoifaakidfcaa.fnDumpAddress
