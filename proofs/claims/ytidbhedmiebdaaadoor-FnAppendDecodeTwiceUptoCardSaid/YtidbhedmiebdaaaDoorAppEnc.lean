/-
  Contracts: encoding/hex.AppendEncode onto a row of the call's own; the thin package's AppendEncode.
-/
import Derived.Test.YtidbhedmiebdaaaDoorGrow
import Derived.Test.YtidbhedmiebdaaaDoorEncRow
namespace Go.Proofs.YtidbhedmiebdaaaDoor
open Go.RowKit Go.Lib
set_option linter.unusedVariables false

theorem below_none {B : Nat} {w w' : World} (hg : w.grownBy w' none) (hB : B ≤ w.heap.size) : Below B w w' := (Below.refl B w).grown hg hB (fun k hk => by cases hk)

set_option maxHeartbeats 400000 in
theorem encodedLen (n m : Nat) (w : World) (hm : m = 2 * n) (hbig : n ≤ 4611686018427387903) : Calls Tryd.prog 32 #[.int .i64 (n : Int)] w fun e w' => e = .returned (.int .i64 (m : Int)) ∧ w = w' := by
  go_enter Tryd.func32, Tryd.ntmps32
  go_wp2
  go_ret
  exact ⟨ret_int (by omega), rfl⟩

set_option maxHeartbeats 2000000 in
theorem hexAppendEncode (B : Nat) (D : Option Addr) (nd cd : Nat) (ld : List UInt8) (A : Option Addr) (n c : Nat) (l : List UInt8) (w : World)
    (hO : OB w B D nd cd ld) (h : RB w A n l) (hlow : ∀ b o, A = some ⟨b, o, none⟩ → 0 < n → b < B) (hB : B ≤ w.heap.size) (hbig : nd + 2 * n ≤ 140737488355328) :
    Calls Tryd.prog 30 #[.slice D nd cd, .slice A n c] w fun e w' => ∃ A' c', e = .returned (.slice A' (nd + 2 * n) c') ∧ OB w' B A' (nd + 2 * n) c' (ld ++ Hx.encode l) ∧ Below B w w' := by
  have HO := Lib.hid hO
  have HB := Lib.hid h
  have HL := Lib.hid hlow
  have HW := Lib.hid hB
  clear hO h hlow hB
  obtain ⟨m, hm⟩ : ∃ m : Nat, m = 2 * n := ⟨_, rfl⟩
  have HM := Lib.hid hm
  have hm1 : nd + m ≤ 140737488355328 := by omega
  have hm2 : n ≤ m := by omega
  clear hm
  go_enter Tryd.func30, Tryd.ntmps30
  go_wp2_with fail
  refine (encodedLen n m _ HM.out (by omega)).mono ?_
  rintro e w0 ⟨rfl, rfl⟩
  go_wp2_with fail
  refine (slicesGrow B nd cd m D ld _ HO.out HW.out (by omega)).mono ?_
  rintro e w1 ⟨A1, c1, rfl, hc1, hc2, hO1, hg1⟩
  have hs1 := run_from A1 nd c1 (nd : Int) (by omega) (by omega)
  have hs2 := run_to (cutA A1 c1 nd) 0 (c1 - nd) (m : Int) (by omega) (by omega)
  have p2 : IntKind.i64.wrap ((nd : Int) + (m : Int)) = ((nd + m : Nat) : Int) := by rw [IntWalk.i64_in _ (by omega)]; omega
  have hs3 := run_to A1 nd c1 ((nd + m : Nat) : Int) (by omega) (by omega)
  simp only [Int.toNat_natCast, Nat.sub_self] at hs1 hs2 hs3
  have HE1 : Hid (Below B w w1) := below_none hg1 HW.out
  have HO1 := Lib.hid hO1
  have HW1 : Hid (B ≤ w1.heap.size) := Nat.le_trans HW.out hg1.size
  have HR := Lib.hid (HB.out.grown hg1 (fun _ _ _ e => by cases e))
  clear hO1 hg1
  by_cases hn0 : n = 0
  · subst hn0
    have hl : l = [] := List.eq_nil_of_length_eq_zero HB.out.1
    subst hl
    obtain rfl : m = 0 := by have := HM.out; omega
    generalize cutA A1 c1 nd = X at hs1 hs2
    go_wp2_with fail
    refine (hexEncode0 _ _ _ _ _ _).mono ?_
    rintro e w2 ⟨rfl, rfl⟩
    go_wp2_with fail
    go_ret
    exact ⟨A1, c1, rfl, by simpa [Hx.encode] using HO1.out, HE1.out⟩
  · rcases HO1.out.cases_ with ⟨rfl, rfl, rfl, rfl⟩ | ⟨g, f, rfl, hg, hn1, hc3, hrow, hf⟩
    · omega
    have hcut : cutA (some ⟨g, 0, none⟩) c1 nd = some ⟨g, nd, none⟩ := by
      unfold cutA
      rw [if_neg (by omega)]
      simp only [Option.map_some, Option.some.injEq]
      unfold Addr.add
      split
      · rename_i h0; subst h0; rfl
      · simp
    rw [hcut] at hs1 hs2
    have HRow := Lib.hid hrow
    have HF := Lib.hid hf
    clear hrow hf hcut
    go_wp2_with fail
    refine (hexEncode 5 g nd m (c1 - nd) c1 f A n c l _ HR.out HRow.out (by omega) (by have := HM.out; omega) (fun hn b o e => ?_) (by omega)).mono ?_
    · have := HL.out b o e hn
      omega
    rintro e w2 ⟨rfl, hrow', hgrow⟩
    have hmm := HM.out
    have hld := HO1.out.1
    have hO2 := OB.ofRow_ (B := B) (n := nd + 2 * n) (l := ld ++ Hx.encode l) (by rw [List.length_append, Hx.encode_length, HB.out.1, hld]) hg (by omega) hc3 hrow' (by
      have := enc_read (od := nd) HB.out.1 HF.out (by omega)
      rw [List.take_of_length_le (by omega), List.drop_of_length_le (by omega), List.append_nil] at this
      exact this)
    have HO2 := Lib.hid hO2
    have HE2 : Hid (Below B w w2) := HE1.out.grown hgrow HW1.out (fun k hk => by cases hk; exact hg)
    clear hO2 hrow' hgrow hld hmm
    go_wp2_with fail
    go_ret
    exact ⟨some ⟨g, 0, none⟩, c1, by rw [HM.out]; rfl, HO2.out, HE2.out⟩

set_option maxHeartbeats 1000000 in
theorem implAppendEncode (D : Option Addr) (nd cd : Nat) (ld : List UInt8) (A : Option Addr) (n c : Nat) (l : List UInt8) (w : World) (hD : RB w D nd ld) (h : RB w A n l) (hbig : nd + 2 * n ≤ 140737488355328) :
    Calls Tryd.prog 22 #[.slice D nd cd, .slice A n c] w fun e w' => ∃ A' c', e = .returned (.slice A' (nd + 2 * n) c') ∧ Hid (OB w' w.heap.size A' (nd + 2 * n) c' (ld ++ Hx.encode l)) ∧ Below w.heap.size w w' := by
  have HD := Lib.hid hD
  have HB := Lib.hid h
  clear hD h
  go_enter Tryd.func22, Tryd.ntmps22
  go_wp2_with fail
  refine (bytesClone D nd cd ld _ HD.out (by omega)).mono ?_
  rintro e w1 ⟨A1, c1, rfl, hO, hb1⟩
  have HO := Lib.hid hO
  have HE1 := Lib.hid hb1
  clear hO hb1
  go_wp2_with fail
  refine (hexAppendEncode w.heap.size A1 nd c1 ld A n c l _ HO.out (HB.out.below HE1.out) (fun b o e hn => ?_) HE1.out.size hbig).mono ?_
  · obtain ⟨b', o', e', hb', _⟩ := HB.out.2 hn
    rw [e] at e'
    injection e' with e'
    injection e' with e1
    omega
  rintro e w2 ⟨A2, c2, rfl, hO2, hb2⟩
  have HO2 := Lib.hid hO2
  have HE2 := Lib.hid (HE1.out.trans hb2)
  clear hO2 hb2
  go_wp2_with fail
  go_ret
  exact ⟨A2, c2, rfl, HO2, HE2.out⟩

/-- The same, the new length under a letter. -/
theorem implAppendEncodeK (N : Nat) (D : Option Addr) (nd cd : Nat) (ld : List UInt8) (A : Option Addr) (n c : Nat) (l : List UInt8) (w : World) (hN : N = nd + 2 * n) (hD : RB w D nd ld) (h : RB w A n l) (hbig : N ≤ 140737488355328) :
    Calls Tryd.prog 22 #[.slice D nd cd, .slice A n c] w fun e w' => ∃ A' c', e = .returned (.slice A' N c') ∧ Hid (OB w' w.heap.size A' N c' (ld ++ Hx.encode l)) ∧ Below w.heap.size w w' := by
  subst hN
  exact implAppendEncode D nd cd ld A n c l w hD h hbig

theorem wpList_appBk {w : World} {a : Act} {o : Oper} {ops : Array Oper} {rest : List Oper} {Q : Exit → Act → World → Prop} (N : Nat) (hgd : o.guard = none) (s x : Operand)
    (ho : o.op = .call { callee := .builtin .append, args := #[s, x], argTypes := #[22, 22] })
    (B n c : Nat) (A : Option Addr) (l : List UInt8) (hs : a.eval s = .slice A n c) (hown : OB w B A n c l) (X : Option Addr) (m d : Nat) (news : List UInt8) (hx : a.eval x = .slice X m d) (hr : RB w X m news) (hN : n + m = N) (hb : N ≤ 140737488355328) (hbase : B ≤ w.heap.size)
    (h : ∀ A' c' w', OB w' B A' N c' (l ++ news) → w.grownBy w' (A.map (·.block)) → (A'.map (·.block) = A.map (·.block) ∨ A'.map (·.block) = some w.heap.size) → wpList Tryd.prog ops Q rest (a.put o.dst (.slice A' N c')) w') :
    wpList Tryd.prog ops Q (o :: rest) a w := by
  subst hN
  exact wpList_appB hgd s x ho B n c A l hs hown X m d news hx hr hb hbase h

end Go.Proofs.YtidbhedmiebdaaaDoor
