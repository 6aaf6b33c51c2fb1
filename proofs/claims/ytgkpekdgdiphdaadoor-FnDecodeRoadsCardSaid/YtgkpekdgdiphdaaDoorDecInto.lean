/-
  Contract: the thin package's Decode, at whatever buffer with room (nil too).
-/
import Derived.Test.YtgkpekdgdiphdaaDoorClone
import Derived.Test.YtgkpekdgdiphdaaDoorFault
namespace Go.Proofs.YtgkpekdgdiphdaaDoor
open Go.RowKit Go.Lib
set_option linter.unusedVariables false

set_option maxHeartbeats 1000000 in
set_option maxRecDepth 100000 in
/-- encoding/hex.Decode of at most one byte: no buffer is wanted. -/
theorem hexDecode1 (D : Option Addr) (nd cd : Nat) (A : Option Addr) (n c : Nat) (l : List UInt8) (w : World) (a : Addr) (h : RB w A n l) (hn : n ≤ 1) (hE : ErrAt w a) :
    Calls Tryd.prog 20 #[.slice D nd cd, .slice A n c] w fun e w' =>
      e = .returned (.tuple #[.int .i64 ((Hx.decode l).1.length : Int), errOf a (Hx.decode l).2]) ∧ (Hx.decode l).1 = [] ∧ w.grownBy w' none := by
  have hE0 := hE.1
  have HE := Lib.hid hE
  clear hE
  have hnn : n = 0 ∨ n = 1 := by omega
  rcases hnn with rfl | rfl
  · obtain rfl : l = [] := List.eq_nil_of_length_eq_zero h.1
    clear h
    go_enter Tryd.func20, Tryd.ntmps20
    go_wp2
    go_loopw [6, 7] (fun vi vj wr => vi = .int .i64 0 ∧ vj = .int .i64 0 ∧ w = wr) (fun _ _ _ => 0)
    case atStart => exact ⟨rfl, rfl, rfl⟩
    case round =>
      obtain ⟨rfl, rfl, rfl⟩ := hrel
      go_wp2
      go_ret2
      exact ⟨by rw [Hx.decode_nil]; rfl, by rw [Hx.decode_nil], Hx.grownBy_refl _ _⟩
  · obtain ⟨bs, os, cx, rfl, hbs, hlx, hcx0⟩ := h.at_ (k := 0) (by omega)
    obtain rfl : l = [cx] := by
      have hl := h.1
      match l, hl with
      | [d], _ => simpa using hlx
    obtain ⟨x, hxk⟩ : ∃ x : Int, x = (cx.toNat : Int) := ⟨_, rfl⟩
    have hcx : w.cell? ⟨bs, os + 0, none⟩ = some (.int .u8 x) := by rw [hxk]; exact hcx0
    rw [Nat.add_zero] at hcx
    have hx0 : 0 ≤ x := by omega
    have hx1 : x < 256 := by have := cx.toNat_lt; omega
    obtain rfl : cx = UInt8.ofNat x.toNat := by rw [hxk]; simp
    have sx : x.toNat < Hx.rev.size := by rw [Hx.rev_size]; omega
    clear h hlx hcx0 hxk
    go_enter Tryd.func20, Tryd.ntmps20
    go_wp2
    go_loopw [6, 7] (fun vi vj wr => vi = .int .i64 0 ∧ vj = .int .i64 0 ∧ w = wr) (fun _ _ _ => 0)
    case atStart => exact ⟨rfl, rfl, rfl⟩
    case round =>
      obtain ⟨rfl, rfl, rfl⟩ := hrel
      go_wp2
      · have hv : (15 : Int) < ((Hx.rev[x.toNat]'sx).toNat : Int) := by assumption
        rw [Hx.rev_at x hx0 hx1] at hv
        have e := Hx.decode_one (UInt8.ofNat x.toNat)
        rw [if_pos (by omega)] at e
        go_region
        go_wp2
        go_ret2
        exact ⟨by rw [e, errOf_bad a x hx0 hx1]; rfl, by rw [e], Hx.grownBy_drew (Hx.grownBy_refl _ _)⟩
      · have hv : ((Hx.rev[x.toNat]'sx).toNat : Int) ≤ 15 := by assumption
        rw [Hx.rev_at x hx0 hx1] at hv
        have e := Hx.decode_one (UInt8.ofNat x.toNat)
        rw [if_neg (by omega)] at e
        go_region
        go_wp2
        go_ret2
        exact ⟨by rw [e]; rfl, by rw [e], Hx.grownBy_drew (Hx.grownBy_refl _ _)⟩

theorem dec_read {f : Nat → Value} {pre ld : List UInt8} {od : Nat} (hf : ∀ i b, ld[i]? = some b → f i = .int .u8 (b.toNat : Int)) (hod : od ≤ ld.length) :
    ∀ i b, (ld.take od ++ pre ++ ld.drop (od + pre.length))[i]? = some b → Hx.rowP f od pre i = .int .u8 (b.toNat : Int) := by
  intro i b hb
  have ht : (ld.take od).length = od := by rw [List.length_take]; omega
  unfold Hx.rowP
  by_cases h1 : od ≤ i ∧ i < od + pre.length
  · rw [if_pos h1]
    rw [List.getElem?_append_left (by rw [List.length_append]; omega), List.getElem?_append_right (by omega), ht] at hb
    rw [hb]
    rfl
  · rw [if_neg h1]
    refine hf i b ?_
    by_cases h2 : i < od
    · rw [List.append_assoc, List.getElem?_append_left (by omega), List.getElem?_take, if_pos h2] at hb
      exact hb
    · rw [List.getElem?_append_right (by rw [List.length_append]; omega), List.length_append, ht, List.getElem?_drop, show od + pre.length + (i - (od + pre.length)) = i by omega] at hb
      exact hb

set_option maxHeartbeats 1000000 in
set_option maxRecDepth 100000 in
/-- encoding/hex.Decode onto a row of the call's own, from its beginning. -/
theorem hexDecodeO (B : Nat) (D : Option Addr) (nd cd : Nat) (ld : List UInt8) (A : Option Addr) (n c : Nat) (l : List UInt8) (w : World) (a : Addr)
    (hO : OB w B D nd cd ld) (h : RB w A n l) (hlow : ∀ b o, A = some ⟨b, o, none⟩ → 0 < n → b < B) (hroom : n / 2 ≤ nd) (hbig : n ≤ 4611686018427387903) (hE : ErrAt w a) (hEB : 0 < B) :
    Calls Tryd.prog 20 #[.slice D nd cd, .slice A n c] w fun e w' =>
      e = .returned (.tuple #[.int .i64 ((Hx.decode l).1.length : Int), errOf a (Hx.decode l).2]) ∧ OB w' B D nd cd ((Hx.decode l).1 ++ ld.drop (Hx.decode l).1.length) ∧ w.grownBy w' (D.map (·.block)) := by
  have hlen := Hx.decode_len l
  rw [h.1] at hlen
  rcases hO.cases_ with ⟨rfl, rfl, rfl, rfl⟩ | ⟨g, f, rfl, hg, hn1, hc1, hrow, hf⟩
  · refine (hexDecode1 none 0 0 A n c l w a h (by omega) hE).mono ?_
    rintro e w' ⟨rfl, hd, hgr⟩
    refine ⟨rfl, ?_, hgr⟩
    rw [hd]
    exact OB.nil_ _ _
  · refine (hexDecode 5 g 0 nd cd cd f A n c l w a h hrow (by omega) (by omega) (fun hn b o e => ?_) hbig hE (by omega)).mono ?_
    · have := hlow b o e hn
      omega
    rintro e w' ⟨rfl, hrow', hgrow⟩
    refine ⟨rfl, OB.ofRow_ ?_ hg hn1 hc1 hrow' ?_, hgrow⟩
    · rw [List.length_append, List.length_drop, hO.1]; omega
    · have := dec_read (pre := (Hx.decode l).1) (od := 0) hf (Nat.zero_le _)
      simpa using this

end Go.Proofs.YtgkpekdgdiphdaaDoor
