/-
  FnEncodeTurned: the text of bytes in the opposite order has the pairs in the opposite order, for every argument that the form reaches.
-/
import Derived.Test.YthljickkppdeoaaCommon
import Derived.Test.YthljickkppdeoaaEncode
import Derived.Test.YthljickkppdeoaaAppend
namespace Go.Proofs.Ythljickkppdeoaa.fnEncodeTurned
open Go.ChangeShapes Go.WideShapes Go.ChangeAt Go.RowKit Go.Lib
open Go.ChangeMaps (open_string shut_string)
set_option linter.unusedVariables false

theorem turn_step (l : List UInt8) (j : Nat) (c : UInt8) (h : l[j]? = some c) : (l.drop (j + 1)).reverse ++ [c] = (l.drop j).reverse := by
  obtain ⟨hj, e⟩ := List.getElem?_eq_some_iff.1 h
  rw [List.drop_eq_getElem_cons hj, e, List.reverse_cons]

theorem pairs (l : List UInt8) (k : Nat) (hk : k < l.length) :
    (Hx.encode l.reverse)[2 * k]? = (Hx.encode l)[2 * (l.length - 1 - k)]? ∧ (Hx.encode l.reverse)[2 * k + 1]? = (Hx.encode l)[2 * (l.length - 1 - k) + 1]? := by
  have h1 : l.reverse[k]? = some (l[l.length - 1 - k]'(by omega)) := by rw [List.getElem?_reverse hk, List.getElem?_eq_getElem]
  have h2 : l[l.length - 1 - k]? = some (l[l.length - 1 - k]'(by omega)) := List.getElem?_eq_getElem _
  obtain ⟨a1, a2⟩ := Hx.encode_at _ _ _ h1
  obtain ⟨b1, b2⟩ := Hx.encode_at _ _ _ h2
  exact ⟨a1.trans b1.symm, a2.trans b2.symm⟩

theorem at_eq (s u : ByteArray) (i j : Nat) (hi : i < u.size) (hj : j < s.size) (h : u.toList[i]? = s.toList[j]?) : u[i] = s[j] := by
  rw [Go.ByteArray.toList_eq, Go.ByteArray.toList_eq, Array.getElem?_toList, Array.getElem?_toList, Array.getElem?_eq_getElem hi, Array.getElem?_eq_getElem hj] at h
  exact Option.some.inj h

set_option maxHeartbeats 1000000 in
set_option maxRecDepth 100000 in
theorem walk (A0 : Option Addr) (n0 c0 : Nat) (l0 : List UInt8) (w : World) (h0 : RB w A0 n0 l0) (e0 : n0 ≤ c0) (g0 : c0 ≤ 140737488351232) :
    Calls Try.prog 12 #[.slice A0 n0 c0] w fun e w' => e = .returned (.bool true) ∧ Below w.heap.size w w' := by
  have HB := Lib.hid h0
  clear h0
  go_enter Try.func12, Try.ntmps12
  go_wp2_with fail
  go_loopw [3, 4] (fun v i wr => ∃ (k : Nat) (A : Option Addr) (c : Nat), k ≤ n0 ∧ v = .slice A (n0 - k) c ∧ i = .int .i64 ((k : Int) - 1) ∧ Hid (OB wr w.heap.size A (n0 - k) c (l0.drop k).reverse) ∧ Hid (Below w.heap.size w wr)) (fun _ i _ => (intOf i + 1).toNat)
  case atStart =>
    refine ⟨n0, some ⟨w.heap.size, 0, none⟩, 0, Nat.le_refl _, by rw [Nat.sub_self], rfl, ?_, (Below.refl _ w).alloc (Nat.le_refl _) _⟩
    have e : (l0.drop n0).reverse = [] := by rw [← HB.out.len]; simp
    rw [e, Nat.sub_self]
    exact OB.made w _ (Nat.le_refl _) #[] (by simp)
  case round =>
    obtain ⟨k, A, c, hk, rfl, rfl, ho, hb⟩ := hrel
    by_cases hk1 : 1 ≤ k
    · obtain ⟨j, rfl⟩ : ∃ j, k = j + 1 := ⟨k - 1, by omega⟩
      obtain ⟨b, o, cc, rfl, hbs, hcc, hcell0⟩ := HB.out.at_ (k := j) (by omega)
      have hcell : wr.cell? ⟨b, o + j, none⟩ = some (.int .u8 (cc.toNat : Int)) := (hb.out.cell (p := ⟨b, o + j, none⟩) hbs).trans hcell0
      have HC := Lib.hid hcc
      clear hcc hcell0
      have e1 : (((j + 1 : Nat) : Int) - 1) = (j : Int) := by omega
      rw [e1]
      clear e1
      have HO1 := Lib.hid (ho.out.alloc (.cells #[.int .u8 (cc.toNat : Int)] 5))
      have HR1 := Lib.hid (RB.one wr cc)
      have hsz : w.heap.size ≤ wr.heap.size := hb.out.size
      go_wp2_with (at_builtin; refine wpList_appB rfl (.tmp 17) (.tmp 22) rfl w.heap.size (n0 - (j + 1)) c A (l0.drop (j + 1)).reverse rfl (by exact HO1.out) (some ⟨wr.heap.size, 0, none⟩) 1 1 [cc] rfl (by exact HR1.out) (by omega) (by simp; omega) ?_; intro A2 c2 w1 hown1 hg1 hat1; refine Hid.out ?_)
      refine Lib.hid ?_
      have hbw1 : Hid (Below w.heap.size w w1) := HO1.out.grows (hb.out.alloc hb.out.size _) hg1 (Nat.le_refl _) (by simp; omega)
      have e2 : n0 - (j + 1) + 1 = n0 - j := by omega
      rw [turn_step l0 j cc HC.out, e2] at hown1
      rw [e2]
      have HO2 := Lib.hid hown1
      clear hown1 hg1 hat1 HO1 HR1 e2
      go_wp2_with fail
      go_roundw
      case rel => exact ⟨j, A2, c2, by omega, rfl, rfl, HO2, hbw1⟩
      case measure => simp [intOf]
    · obtain rfl : k = 0 := by omega
      go_wp2_with fail
      refine (encodeText _ _ _ l0 _ (HB.out.below hb.out) (by omega)).mono ?_
      rintro e w1 ⟨s, rfl, hs, hz, hb1⟩
      have HO := Lib.hid (ho.out.below hb1).rb
      go_wp2_with fail
      refine (encodeText _ _ _ (l0.drop 0).reverse _ HO.out (by omega)).mono ?_
      rintro e w2 ⟨u, rfl, hu, hzu, hb2⟩
      have hbx : Hid (Below w.heap.size w w2) := (hb.out.trans (hb1.mono hb.out.size)).trans (hb2.mono (Nat.le_trans hb.out.size hb1.size))
      have hu' : Hid (u.toList = Hx.encode l0.reverse) := by have := hu.out; rwa [List.drop_zero] at this
      have hl := Lib.hid HB.out.len
      have q1 : ((s.size : Int) != 2 * (n0 : Int)) = false := by have := hz.out; simp; omega
      have q2 : ((u.size : Int) != (s.size : Int)) = false := by have := hz.out; have := hzu.out; simp; omega
      have q3 : s.size ≤ 281474976710656 := by have := hz.out; omega
      clear ho hb hb1 hb2 HO hu
      go_wp2_with fail
      go_loopw [8] (fun v wq => ∃ j i : Nat, j ≤ n0 ∧ v = .int .i64 (i : Int) ∧ Hid (i = 2 * j) ∧ ∃ q, wq = w2.drewN q) (fun v _ => s.size - (intOf v).toNat)
      case atStart => exact ⟨0, 0, Nat.zero_le _, rfl, rfl, 0, rfl⟩
      case round =>
        obtain ⟨j, i, hj, rfl, hij, q, rfl⟩ := hrel
        by_cases hlt : j < n0
        · have hzz := hz.out
          have hzzu := hzu.out
          have hii := hij.out
          have r1 : i < s.size := by omega
          obtain ⟨m1, hm1⟩ : ∃ m : Nat, m = s.size - 2 - 2 * j := ⟨_, rfl⟩
          obtain ⟨m2, hm2⟩ : ∃ m : Nat, m = s.size - 1 - 2 * j := ⟨_, rfl⟩
          obtain ⟨m3, hm3⟩ : ∃ m : Nat, m = 2 * j + 1 := ⟨_, rfl⟩
          have p1 : IntKind.i64.wrap ((s.size : Int) - 2) = (s.size : Int) - 2 := IntWalk.i64_in _ (by omega)
          have p2 : IntKind.i64.wrap ((s.size : Int) - 2 - (i : Int)) = (m1 : Int) := by rw [IntWalk.i64_in _ (by omega)]; omega
          have p3 : IntKind.i64.wrap ((i : Int) + 1) = (m3 : Int) := by rw [IntWalk.i64_in _ (by omega)]; omega
          have p4 : IntKind.i64.wrap ((s.size : Int) - 1) = (s.size : Int) - 1 := IntWalk.i64_in _ (by omega)
          have p5 : IntKind.i64.wrap ((s.size : Int) - 1 - (i : Int)) = (m2 : Int) := by rw [IntWalk.i64_in _ (by omega)]; omega
          have f1 : i < u.size := by omega
          have f2 : m1 < s.size := by omega
          have f3 : m3 < u.size := by omega
          have f4 : m2 < s.size := by omega
          have hp := pairs l0 j (by rw [hl.out]; exact hlt)
          rw [← hu'.out, ← hs.out, hl.out] at hp
          have k1 : (((u[i]'f1).toNat : Int) != ((s[m1]'f2).toNat : Int)) = false := by
            rw [at_eq s u i m1 f1 f2 (by rw [show m1 = 2 * (n0 - 1 - j) by omega, hii]; exact hp.1)]
            simp
          have k2 : (((u[m3]'f3).toNat : Int) != ((s[m2]'f4).toNat : Int)) = false := by
            rw [at_eq s u m3 m2 f3 f4 (by rw [show m2 = 2 * (n0 - 1 - j) + 1 by omega, hm3]; exact hp.2)]
            simp
          clear hzz hzzu hp hm1 hm2 hm3 hii
          go_wp2_with fail
          go_quiet (fail)
          clear p1 p2 p3 p4 p5
          go_wp2_with fail
          have hii := hij.out
          have hzz := hz.out
          exact ⟨⟨j + 1, i + 2, by omega, by go_num, by unfold Hid; omega, _, rfl⟩, by simp [intOf]; omega⟩
        · have hzz := hz.out
          have hii := hij.out
          have r1 : s.size ≤ i := by omega
          clear hzz hii
          go_wp2_with fail
          go_ret
          exact ⟨rfl, below_drewN hbx.out q⟩

/-- What the walk gives, said of whatever the row reads. -/
theorem contract (H : Type) (enc : TypeId × Value → H) (W : World) (base : Nat) (args : Array Value) (ds gs : List (DataW H)) (before : List MemPlace)
    (hval : ∀ (j : Nat) t v, Try.f12.params[j]? = some t → args[j]? = some v → Value.okWide Try.prog W .any base t v)
    (hW : DataW.Whole enc Try.prog Try.f12.params.toList Rows.fnEncodeTurnedSpec.vars false W args.toList ds gs before)
    (hsz : (DataW.weightsEach Try.prog (Try.f12.params.toList ++ Rows.fnEncodeTurnedSpec.plain.varTypes Try.prog) (ds ++ gs)).all (· ≤ reachBytes) = true) :
    Calls Try.prog 12 args W fun e W' => ∃ v, e = .returned v ∧ Rows.fnEncodeTurnedSpec.post enc Try.prog Try.f12 false true false false W args v W' := by
  have hW' := hW
  obtain ⟨p, q, hA0, hV, rfl, _, _⟩ := hW
  have hA : DataW.TrodAll enc Try.prog W 0 (fun _ => true) true Try.f12.params.toList args.toList ds p := hA0
  clear hA0
  rw [Try.params12] at hA hval hsz
  obtain ⟨v0, vs0, d0, ds0, p0, q0, hargs, rfl, rfl, h0, r0⟩ := trodAll_cons hA
  obtain ⟨rfl, rfl, rfl⟩ := trodAll_nil r0
  obtain rfl : args = #[v0] := by cases args; simp_all
  obtain ⟨rfl, rfl⟩ := trodVars_none hV
  have k0 := h0
  have lt0 : ∀ x ∈ p0, x.block < W.heap.size := by obtain ⟨m, hm⟩ := k0; exact DataW.trod_lt m _ _ _ hm
  obtain ⟨A0, n0, c0, rfl⟩ := okWide_slice Try.underlying25 (hval 0 25 v0 rfl rfl)
  obtain ⟨l0, h0r, e0, g0, u0⟩ := argB h0 (weigh hsz (j := 0) rfl rfl)
  refine (walk A0 n0 c0 l0 W h0r e0 g0).mono fun e W' ⟨he, bel⟩ => ?_
  subst he
  exact ⟨_, rfl, _, _, _, [], _, [], hW', trodAll_mk1 (shut_bool Try.underlying4 _), (trodAll_cons_mk (Below.trod laidOut (by kernel_rfl) (of_decide_eq_true (by kernel_rfl)) k0 bel lt0) trodAll_mk0), rfl, bel.frame _, fun h => by cases h⟩

set_option maxRecDepth 100000 in
theorem lifted (os : Os) (started : os.Started) (H : Type) (enc : TypeId × Value → H) :
    ReturnsInHanded {} Try.checked os 12 .any (Rows.fnEncodeTurnedSpec.pre6 enc Try.prog Try.f12 Rows.fnEncodeTurnedRow.domain false) (Rows.fnEncodeTurnedSpec.post enc Try.prog Try.f12 false true false false) := by
  refine returnsInHanded_of_change_sized (C := Try.checked) own started (by kernel_rfl) Try.func12
    (ChangeSpec.witness6 (enc := enc) (C := Try.checked) false ⟨#[], #[.slice none 0 0], []⟩ 8 (by kernel_rfl) (by kernel_rfl) (by kernel_rfl) (by kernel_rfl)) ?_
  intro W base args ds gs before hval hW _ hsz _
  exact contract H enc W base args ds gs before hval hW hsz

theorem over : Rows.fnEncodeTurnedRow.holds Try.pinned (OpenSpec.ofChange Rows.fnEncodeTurnedSpec) :=
  OpenClaim.holds_of_wide 12 Try.f12 rfl rfl rfl rfl rfl rfl rfl ⟨rfl, rfl, rfl, rfl, rfl⟩ rfl rfl rfl rfl rfl (by kernel_rfl) Try.func12 (by kernel_rfl)
    (of_decide_eq_true (by kernel_rfl)) (by unfold Func.isWrapper; first | (rw [if_pos (by decide +kernel)]; kernel_rfl) | (rw [if_neg (by decide +kernel)]; exact ⟨rfl, rfl⟩))
    (fun os started H enc _ => lifted os started H enc)

theorem proved : Rows.FnEncodeTurnedSaid := over
end Go.Proofs.Ythljickkppdeoaa.fnEncodeTurned
