/-
  Contracts: encoding/hex.EncodedLen, Encode, EncodeToString, and the thin package's EncodeToString, at whatever slice of bytes (nil too); 'string(b)' and 'same' of two slices of bytes.
-/
import Derived.Test.YtgkpekdgdiphdaaDoorCommon
namespace Go.Proofs.YtgkpekdgdiphdaaDoor
open Go.RowKit Go.Lib
set_option linter.unusedVariables false

theorem infoU8 : (Tryd.prog.info? 5).map (fun i => (i.zero, i.size, i.bytes)) = some (some (Value.int IntKind.u8 0), 1, 1) := by kernel_rfl

/-- 'string(b)': the bytes of b. -/
theorem conv {w : World} {A : Option Addr} {n : Nat} {l : List UInt8} (h : RB w A n l) (c : Nat) : (convert 22 9 (.slice A n c)).run Tryd.prog w = .ok (.string ⟨l.toArray⟩) w := by
  obtain ⟨rfl, h2⟩ := h
  by_cases hn : 0 < l.length
  · obtain ⟨b, o, rfl, _, hc⟩ := h2 hn
    refine run_convert_bytes_back w _ _ 5 _ c l Tryd.underlying22 Tryd.underlying5 Tryd.underlying9 (fun j hj => ?_)
    have e2 : (⟨b, o, none⟩ : Addr).add j = ⟨b, o + j, none⟩ := by
      unfold Addr.add
      split
      · rename_i h0; subst h0; simp
      · rfl
    rw [e2]
    exact hc j _ (List.getElem?_eq_getElem hj)
  · have e : l = [] := List.eq_nil_of_length_eq_zero (by omega)
    subst e
    cases A with
    | none => exact run_convert_bytes_nil (P := Tryd.prog) w 22 5 Tryd.underlying22 Tryd.underlying5 0 c 9 Tryd.underlying9
    | some a => exact run_convert_bytes_back w _ _ 5 a c [] Tryd.underlying22 Tryd.underlying5 Tryd.underlying9 (fun j hj => absurd hj (by simp))

set_option maxHeartbeats 1000000 in
set_option maxRecDepth 100000 in
/-- encoding/hex.Encode: dst is a stretch of a row with room, src reads as l and lies in another block. -/
theorem hexEncode (T : TypeId) (bd od nd cd N : Nat) (f : Nat → Value) (A : Option Addr) (n c : Nat) (l : List UInt8) (w : World)
    (h : RB w A n l) (hrow : w.rowIs bd T N f) (hfit : od + nd ≤ N) (hlen : 2 * n ≤ nd) (hne : 0 < n → ∀ b o, A = some ⟨b, o, none⟩ → bd ≠ b) (hbig : n ≤ 4611686018427387903) :
    Calls Tryd.prog 23 #[.slice (some ⟨bd, od, none⟩) nd cd, .slice A n c] w fun e w' => e = .returned (.int .i64 ((n : Int) * 2)) ∧ w'.rowIs bd T N (Hx.row f od l n) ∧ w.grownBy w' (some bd) := by
  have HB := Lib.hid h
  have HNE := Lib.hid hne
  clear h hne
  go_enter Tryd.func23, Tryd.ntmps23
  go_wp2
  go_loopw [5, 10] (fun vj vi wr => ∃ k : Nat, k ≤ n ∧ vi = .int .i64 k ∧ vj = .int .i64 ((2 * k : Nat) : Int) ∧ Hid (wr.rowIs bd T N (Hx.row f od l k)) ∧ Hid (w.grownBy wr (some bd))) (fun _ vi _ => n - (RowKit.intOf vi).toNat)
  case atStart => exact ⟨0, Nat.zero_le _, rfl, rfl, hrow.congr (fun j _ => Hx.row_zero f od _ j), Hx.grownBy_refl _ _⟩
  case round =>
    obtain ⟨k, hk, rfl, rfl, hrw, hgr⟩ := hrel
    by_cases hlt : k < n
    · obtain ⟨bs, os, cc, rfl, hbs, hcc, hcell⟩ := HB.out.at_ hlt
      have hbb : bd ≠ bs := HNE.out (by omega) bs os rfl
      have hcx0 : wr.cell? ⟨bs, os + k, none⟩ = some (.int .u8 (cc.toNat : Int)) := hgr.out.cell hcell (by simp; omega)
      obtain ⟨x, hxk⟩ : ∃ x : Int, x = (cc.toNat : Int) := ⟨_, rfl⟩
      have hcx : wr.cell? ⟨bs, os + k, none⟩ = some (.int .u8 x) := by rw [hxk]; exact hcx0
      have hx0 : 0 ≤ x := by omega
      have hx1 : x < 256 := by have := cc.toNat_lt; omega
      have HX : Hid (UInt8.ofNat x.toNat = cc) := by rw [hxk]; simp [Hid]
      have HC := Lib.hid hcc
      clear hxk hcx0 hcell hcc
      have hf1 : wr.frozen? ⟨bd, od + 2 * k, none⟩ = false := hrw.out.frozen _
      have hc1 : wr.cell? ⟨bd, od + 2 * k, none⟩ = some (Hx.row f od l k (od + 2 * k)) := hrw.out.cell (by omega)
      have hf2 : ∀ v, (wr.setCell ⟨bd, od + 2 * k, none⟩ v).frozen? ⟨bd, od + (2 * k + 1), none⟩ = false := fun v => (hrw.out.set _ v).frozen _
      have hc2 : ∀ v, (wr.setCell ⟨bd, od + 2 * k, none⟩ v).cell? ⟨bd, od + (2 * k + 1), none⟩ = some (Hx.row f od l k (od + (2 * k + 1))) := fun v => by
        have := (hrw.out.set (od + 2 * k) v).cell (i := od + (2 * k + 1)) (by omega)
        rwa [if_neg (by omega)] at this
      go_wp2
      go_roundw
      case rel =>
        refine ⟨k + 1, by omega, by go_num, by first | go_num | (congr 1; omega), ((hrw.out.set _ _).set _ _).congr (fun j _ => ?_), Hx.grownBy_set (Hx.grownBy_set hgr.out _ rfl _) _ rfl _⟩
        have e1 := Hx.dig_hi x hx0 hx1 (by show _ < 16; omega)
        have e2 := Hx.dig_lo x hx0 hx1 (by show _ < 16; omega)
        have e3 := Hx.row_step f od l k (UInt8.ofNat x.toNat) (by rw [HX.out]; exact HC.out) j
        rw [← e1, ← e2] at e3
        exact e3
      case measure => simp [RowKit.intOf]; omega
    · have hk2 : k = n := by omega
      subst hk2
      go_wp2
      go_ret
      exact ⟨rfl, hrw.out, hgr.out⟩

set_option maxHeartbeats 1000000 in
set_option maxRecDepth 100000 in
/-- encoding/hex.EncodeToString, at whatever slice of bytes. -/
theorem hexEncodeToString (A : Option Addr) (n c : Nat) (l : List UInt8) (w : World) (h : RB w A n l) (hbig : 2 * n ≤ 281474976710656) :
    Calls Tryd.prog 16 #[.slice A n c] w fun e w' => e = .returned (.string ⟨(Hx.encode l).toArray⟩) ∧ Below w.heap.size w w' := by
  have hmk : ∀ w : World, (Instr.makeSlice 22 (.int .i64 ((n : Int) * 2)) (.int .i64 ((n : Int) * 2))).run Tryd.prog w = .ok (.slice (some ⟨w.heap.size, 0, none⟩) (2 * n) (2 * n)) (w.alloc (.cells (madeCells #[.int .u8 0] (2 * n)) 5)) := fun w => by
    have h := run_make_row' (P := Tryd.prog) 22 5 (.int .u8 0) 1 Tryd.underlying22 infoU8 rfl .i64 .i64 (2 * n) (by omega) (by omega) w
    rwa [show ((2 * n : Nat) : Int) = (n : Int) * 2 by omega] at h
  have HB := Lib.hid h
  have hl : Hid (l.length = n) := h.1
  clear h
  go_enter Tryd.func16, Tryd.ntmps16
  go_wp2_with (go_at_call 22; go_in)
  refine (hexEncode 5 w.heap.size 0 (2 * n) (2 * n) (2 * n) (fun _ => .int .u8 0) A n c l _ (HB.out.alloc _) (World.rowIs_made w _ _ _) (by omega) (by omega) (fun hn b o e => ?_) (by omega)).mono ?_
  · obtain ⟨b', o', e', hb', _⟩ := HB.out.2 hn
    rw [e] at e'
    injection e' with e'
    injection e' with e1
    omega
  rintro e w2 ⟨rfl, hrow', hgrow⟩
  have hrb : RB w2 (some ⟨w.heap.size, 0, none⟩) (2 * n) (Hx.encode l) := ⟨by rw [Hx.encode_length, hl.out], fun hn => ⟨w.heap.size, 0, rfl, hrow'.lt, fun i c hi => by
    have hi' := (List.getElem?_eq_some_iff.1 hi).1
    rw [Hx.encode_length, hl.out] at hi'
    rw [Nat.zero_add, hrow'.cell hi', Hx.row_in _ _ _ _ hi', Hx.nums_getD, hi]
    rfl⟩⟩
  have g := conv hrb (2 * n)
  have HG := Lib.hid hgrow
  clear hrow' hgrow hrb
  go_wp2
  go_ret
  exact ⟨rfl, ((Below.refl _ w).alloc (Nat.le_refl _) _).grown HG.out (by simp) (fun k hk => by cases hk; exact Nat.le_refl _)⟩

set_option maxHeartbeats 400000 in
/-- The thin package's EncodeToString. -/
theorem encodeToString (A : Option Addr) (n c : Nat) (l : List UInt8) (w : World) (h : RB w A n l) (hbig : 2 * n ≤ 281474976710656) :
    Calls Tryd.prog 8 #[.slice A n c] w fun e w' => e = .returned (.string ⟨(Hx.encode l).toArray⟩) ∧ Below w.heap.size w w' := by
  have HB := Lib.hid h
  clear h
  go_enter Tryd.func8, Tryd.ntmps8
  go_wp2_with (go_at_call 16; refine (hexEncodeToString A n c l _ HB.out hbig).mono ?_; rintro e w' ⟨rfl, hb⟩)
  go_ret
  exact ⟨rfl, hb⟩

/-- The same, the text under a name of its own. -/
theorem encodeText (A : Option Addr) (n c : Nat) (l : List UInt8) (w : World) (h : RB w A n l) (hbig : 2 * n ≤ 281474976710656) :
    Calls Tryd.prog 8 #[.slice A n c] w fun e w' => ∃ s : ByteArray, e = .returned (.string s) ∧ Hid (s.toList = Hx.encode l) ∧ Hid (s.size = 2 * n) ∧ Below w.heap.size w w' :=
  (encodeToString A n c l w h hbig).mono fun _ _ ⟨he, hb⟩ => ⟨⟨(Hx.encode l).toArray⟩, he, by simp [Hid, Go.ByteArray.toList_eq], by
    show (Hx.encode l).toArray.size = _
    rw [List.size_toArray, Hx.encode_length, h.1], hb⟩

end Go.Proofs.YtgkpekdgdiphdaaDoor
