/-
  Contract: the thin package's Encode, at whatever buffer with room (nil too).
-/
import Derived.Test.YtbjhjiffbegakaaClone
namespace Go.Proofs.Ytbjhjiffbegakaa
open Go.RowKit Go.Lib
set_option linter.unusedVariables false

set_option maxHeartbeats 400000 in
/-- encoding/hex.Encode of no bytes. -/
theorem hexEncode0 (D : Option Addr) (nd cd : Nat) (A : Option Addr) (c : Nat) (w : World) :
    Calls Try.prog 18 #[.slice D nd cd, .slice A 0 c] w fun e w' => e = .returned (.int .i64 0) ∧ w = w' := by
  go_enter Try.func18, Try.ntmps18
  go_wp2
  go_loopw [5, 10] (fun vj vi wr => vi = .int .i64 0 ∧ vj = .int .i64 0 ∧ w = wr) (fun _ _ _ => 0)
  case atStart => exact ⟨rfl, rfl, rfl⟩
  case round =>
    obtain ⟨rfl, rfl, rfl⟩ := hrel
    go_wp2
    go_ret
    exact ⟨rfl, rfl⟩

theorem enc_read {f : Nat → Value} {l ld : List UInt8} {n od : Nat} (hl : l.length = n) (hf : ∀ i b, ld[i]? = some b → f i = .int .u8 (b.toNat : Int)) (hod : od ≤ ld.length) :
    ∀ i b, (ld.take od ++ Hx.encode l ++ ld.drop (od + 2 * n))[i]? = some b → Hx.row f od l n i = .int .u8 (b.toNat : Int) := by
  intro i b hb
  have he : (Hx.encode l).length = 2 * n := by rw [Hx.encode_length, hl]
  have ht : (ld.take od).length = od := by rw [List.length_take]; omega
  unfold Hx.row
  by_cases h1 : od ≤ i ∧ i < od + 2 * n
  · rw [if_pos h1]
    rw [List.getElem?_append_left (by rw [List.length_append]; omega), List.getElem?_append_right (by omega), ht] at hb
    rw [hb]
    rfl
  · rw [if_neg h1]
    refine hf i b ?_
    by_cases h2 : i < od
    · rw [List.append_assoc, List.getElem?_append_left (by omega), List.getElem?_take, if_pos h2] at hb
      exact hb
    · rw [List.getElem?_append_right (by rw [List.length_append]; omega), List.length_append, ht, he, List.getElem?_drop, show od + 2 * n + (i - (od + 2 * n)) = i by omega] at hb
      exact hb

set_option maxHeartbeats 1000000 in
theorem implEncode (D : Option Addr) (nd cd : Nat) (ld : List UInt8) (A : Option Addr) (n c : Nat) (l : List UInt8) (w : World) (hD : RB w D nd ld) (h : RB w A n l) (hroom : 2 * n ≤ nd) (hbig : nd ≤ 140737488355328) :
    Calls Try.prog 10 #[.slice D nd cd, .slice A n c] w fun e w' => ∃ A' c', e = .returned (.tuple #[.slice A' nd c', .int .i64 ((n : Int) * 2)]) ∧ nd ≤ c' ∧ c' ≤ 9223372036854775807 ∧
      Hid (RB w' A' nd (Hx.encode l ++ ld.drop (2 * n))) ∧ Below w.heap.size w w' := by
  have HD := Lib.hid hD
  have HB := Lib.hid h
  clear hD h
  go_enter Try.func10, Try.ntmps10
  go_wp2_with fail
  refine (bytesClone D nd cd ld _ HD.out hbig).mono ?_
  rintro e w1 ⟨A1, c1, rfl, hO, hb1⟩
  have hle := hO.le
  simp only [maxLen] at hle
  rcases hO.cases_ with ⟨rfl, rfl, rfl, rfl⟩ | ⟨g, f, rfl, hg, hn1, hc1, hrow, hf⟩
  · obtain rfl : n = 0 := by omega
    have hl : l = [] := List.eq_nil_of_length_eq_zero HB.out.1
    subst hl
    have HB1 := Lib.hid hb1
    clear hb1 hO
    go_wp2_with fail
    refine (hexEncode0 _ _ _ _ _ _).mono ?_
    rintro e w2 ⟨rfl, rfl⟩
    go_wp2_with fail
    go_ret2
    exact ⟨none, 0, rfl, by omega, by omega, RB.nil_ _ _, HB1.out⟩
  · have HB1 := Lib.hid hb1
    have HR := Lib.hid (HB.out.below hb1)
    have HF := Lib.hid hf
    have HRow := Lib.hid hrow
    have HG := Lib.hid hg
    have HL : Hid (ld.length = nd) := HD.out.1
    clear hb1 hO hf hrow
    go_wp2_with fail
    refine (hexEncode 5 g 0 nd c1 c1 f A n c l _ HR.out HRow.out (by omega) (by omega) (fun hn b o e => ?_) (by omega)).mono ?_
    · obtain ⟨b', o', e', hb', _⟩ := HB.out.2 hn
      rw [e] at e'
      injection e' with e'
      injection e' with e1
      have := HG.out
      omega
    rintro e w2 ⟨rfl, hrow', hgrow⟩
    have hB2 : Hid (Below w.heap.size w w2) := HB1.out.grown hgrow HB1.out.size (fun k hk => by cases hk; exact HG.out)
    have hO2 := OB.ofRow_ (B := 0) (n := nd) (l := Hx.encode l ++ ld.drop (2 * n)) (by rw [List.length_append, Hx.encode_length, HB.out.1, List.length_drop, HL.out]; omega) (Nat.zero_le _) hle.1 hc1 hrow' (by
      have := enc_read (od := 0) HB.out.1 HF.out (Nat.zero_le _)
      simpa using this)
    have HO2 := Lib.hid hO2
    clear hO2 hrow' hgrow
    go_wp2_with fail
    go_ret2
    exact ⟨_, c1, rfl, by omega, by omega, HO2.out.rb, hB2.out⟩

end Go.Proofs.Ytbjhjiffbegakaa
