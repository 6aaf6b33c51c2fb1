/-
  Contracts: encoding/hex.Decode (dst a stretch of a row with room, src in another block), DecodeString, the thin package's fault and DecodeString. 'ErrAt': what the variable encoding/hex.ErrLength holds.
-/
import Derived.Test.YtgkpekdgdiphdaaDoorLaid
import Derived.Test.YtgkpekdgdiphdaaDoorEncode
import Derived.Test.YtgkpekdgdiphdaaDoorPureDec
import Derived.Lib.ConvBytes
namespace Go.Proofs.YtgkpekdgdiphdaaDoor
open Go.RowKit Go.Lib
set_option linter.unusedVariables false

/-- The error that a decoding ends with. -/
abbrev errOf (a : Addr) (o : Hx.Out) : Value := Hx.errVal 48 (.iface 53 (.pointer (some a))) o

theorem errOf_bad (a : Addr) (x : Int) (h0 : 0 ≤ x) (h1 : x < 256) : errOf a (.bad (UInt8.ofNat x.toNat)) = .iface 48 (.int .u8 x) := Hx.errVal_bad _ _ x h0 h1

set_option maxHeartbeats 2000000 in
set_option maxRecDepth 100000 in
theorem hexDecode (T : TypeId) (bd od nd cd N : Nat) (f : Nat → Value) (A : Option Addr) (n c : Nat) (l : List UInt8) (w : World) (a : Addr)
    (h : RB w A n l) (hrow : w.rowIs bd T N f) (hfit : od + nd ≤ N) (hlen : n / 2 ≤ nd) (hne : 0 < n → ∀ b o, A = some ⟨b, o, none⟩ → bd ≠ b) (hbig : n ≤ 4611686018427387903)
    (hE : ErrAt w a) (hgb : 0 ≠ bd) :
    Calls Tryd.prog 20 #[.slice (some ⟨bd, od, none⟩) nd cd, .slice A n c] w fun e w' =>
      e = .returned (.tuple #[.int .i64 ((Hx.decode l).1.length : Int), errOf a (Hx.decode l).2]) ∧ w'.rowIs bd T N (Hx.rowP f od (Hx.decode l).1) ∧ w.grownBy w' (some bd) := by
  generalize hD0 : Hx.decode l = D
  obtain ⟨D1, D2⟩ := D
  have hD := Lib.hid hD0
  clear hD0
  have HB := Lib.hid h
  have HNE := Lib.hid hne
  have HE := Lib.hid hE
  clear h hne hE
  go_enter Tryd.func20, Tryd.ntmps20
  go_wp2
  go_loopw [6, 7] (fun vi vj wr => ∃ (k : Nat) (pre : List UInt8), 2 * k ≤ n ∧ vi = .int .i64 k ∧ vj = .int .i64 ((2 * k : Nat) : Int) ∧ Hid (Hx.Mid l k pre) ∧ Hid (wr.rowIs bd T N (Hx.rowP f od pre)) ∧ Hid (w.grownBy wr (some bd))) (fun _ vj _ => n - (RowKit.intOf vj).toNat)
  case atStart => exact ⟨0, [], Nat.zero_le _, rfl, rfl, Hx.mid_zero _, hrow.congr (fun j _ => Hx.rowP_nil f od j), Hx.grownBy_refl _ _⟩
  case round =>
    obtain ⟨k, pre, hk, rfl, rfl, hmid, hrw, hgr⟩ := hrel
    have hEr : wr.cell? ⟨0, 0, none⟩ = some (.iface 53 (.pointer (some a))) := hgr.out.cell HE.out.1 (by simp; omega)
    by_cases hlt : 2 * k + 1 < n
    · obtain ⟨bs, os, cx, rfl, hbs, hlx, hcx0⟩ := HB.out.at_ (k := 2 * k) (by omega)
      obtain ⟨bs', os', cy, e', _, hly, hcy0⟩ := HB.out.at_ hlt
      obtain ⟨rfl, rfl⟩ : bs' = bs ∧ os' = os := by
        injection e' with e'
        injection e' with e1 e2
        exact ⟨e1.symm, e2.symm⟩
      have hbb : bd ≠ bs' := HNE.out (by omega) bs' os' rfl
      obtain ⟨x, hxk⟩ : ∃ x : Int, x = (cx.toNat : Int) := ⟨_, rfl⟩
      obtain ⟨y, hyk⟩ : ∃ y : Int, y = (cy.toNat : Int) := ⟨_, rfl⟩
      have hcx : wr.cell? ⟨bs', os' + 2 * k, none⟩ = some (.int .u8 x) := by rw [hxk]; exact hgr.out.cell hcx0 (by simp; omega)
      have hcy : wr.cell? ⟨bs', os' + (2 * k + 1), none⟩ = some (.int .u8 y) := by rw [hyk]; exact hgr.out.cell hcy0 (by simp; omega)
      have hx0 : 0 ≤ x := by omega
      have hx1 : x < 256 := by have := cx.toNat_lt; omega
      have hy0 : 0 ≤ y := by omega
      have hy1 : y < 256 := by have := cy.toNat_lt; omega
      have HP : Hid (l[2 * k]? = some (UInt8.ofNat x.toNat)) := by rw [hxk]; simpa [Hid] using hlx
      have HQ : Hid (l[2 * k + 1]? = some (UInt8.ofNat y.toNat)) := by rw [hyk]; simpa [Hid] using hly
      clear hxk hyk hlx hly hcx0 hcy0 e'
      have hf1 : wr.frozen? ⟨bd, od + k, none⟩ = false := hrw.out.frozen _
      have hc1 : wr.cell? ⟨bd, od + k, none⟩ = some (Hx.rowP f od pre (od + k)) := hrw.out.cell (by omega)
      have hT : 2 * (k : Int) < (n : Int) - 1 := by omega
      have sx : x.toNat < Hx.rev.size := by rw [Hx.rev_size]; omega
      have sy : y.toNat < Hx.rev.size := by rw [Hx.rev_size]; omega
      go_wp2
      · have hv : (15 : Int) < ((Hx.rev[x.toNat]'sx).toNat : Int) := by assumption
        rw [Hx.rev_at x hx0 hx1] at hv
        have e := Hx.mid_bad1 hmid.out _ _ HP.out HQ.out (by omega)
        go_ret2
        obtain ⟨rfl, rfl⟩ := Prod.mk.inj (hD.out.symm.trans e)
        exact ⟨by rw [hmid.out.1, errOf_bad a x hx0 hx1]; rfl, hrw.out, hgr.out⟩
      · have hv1 : ((Hx.rev[x.toNat]'sx).toNat : Int) ≤ 15 := by assumption
        have hv : (15 : Int) < ((Hx.rev[y.toNat]'sy).toNat : Int) := by assumption
        rw [Hx.rev_at x hx0 hx1] at hv1
        rw [Hx.rev_at y hy0 hy1] at hv
        have e := Hx.mid_bad2 hmid.out _ _ HP.out HQ.out (by omega) (by omega)
        go_ret2
        obtain ⟨rfl, rfl⟩ := Prod.mk.inj (hD.out.symm.trans e)
        exact ⟨by rw [hmid.out.1, errOf_bad a y hy0 hy1]; rfl, hrw.out, hgr.out⟩
      · have hv1 : ((Hx.rev[x.toNat]'sx).toNat : Int) ≤ 15 := by assumption
        have hv2 : ((Hx.rev[y.toNat]'sy).toNat : Int) ≤ 15 := by assumption
        have ex := Hx.rev_at x hx0 hx1 sx
        have ey := Hx.rev_at y hy0 hy1 sy
        rw [ex] at hv1
        rw [ey] at hv2
        go_roundw
        case rel =>
          refine ⟨k + 1, pre ++ [UInt8.ofNat (Hx.v (UInt8.ofNat x.toNat) * 16 + Hx.v (UInt8.ofNat y.toNat))], by omega, by go_num, by first | go_num | (congr 1; omega), Hx.mid_step hmid.out _ _ HP.out HQ.out (by omega) (by omega), (hrw.out.set _ _).congr (fun j _ => ?_), Hx.grownBy_set hgr.out _ rfl _⟩
          have e3 := Hx.rowP_step f od pre (UInt8.ofNat (Hx.v (UInt8.ofNat x.toNat) * 16 + Hx.v (UInt8.ofNat y.toNat))) j
          rw [hmid.out.1, ← Hx.or_digits _ _ (by omega) (by omega), ← ex, ← ey] at e3
          exact e3
        case measure => simp [RowKit.intOf]; omega
    · by_cases hodd : n = 2 * k + 1
      · obtain ⟨bs, os, cx, rfl, hbs, hlx, hcx0⟩ := HB.out.at_ (k := 2 * k) (by omega)
        have hbb : bd ≠ bs := HNE.out (by omega) bs os rfl
        obtain ⟨x, hxk⟩ : ∃ x : Int, x = (cx.toNat : Int) := ⟨_, rfl⟩
        have hcx : wr.cell? ⟨bs, os + 2 * k, none⟩ = some (.int .u8 x) := by rw [hxk]; exact hgr.out.cell hcx0 (by simp; omega)
        have hx0 : 0 ≤ x := by omega
        have hx1 : x < 256 := by have := cx.toNat_lt; omega
        have HP : Hid (l[2 * k]? = some (UInt8.ofNat x.toNat)) := by rw [hxk]; simpa [Hid] using hlx
        clear hxk hlx hcx0
        have hT : (n : Int) - 1 ≤ 2 * (k : Int) := by omega
        have hO : ((n : Int) % 2 == 1) = true := by simp; omega
        have hin : 0 ≤ 2 * (k : Int) ∧ 2 * (k : Int) < (n : Int) := by omega
        have sx : x.toNat < Hx.rev.size := by rw [Hx.rev_size]; omega
        have hl : l.length = 2 * k + 1 := by rw [HB.out.1, hodd]
        have HL := Lib.hid hl
        have HO := Lib.hid hodd
        clear hl hodd
        go_wp2
        · have hv : (15 : Int) < ((Hx.rev[x.toNat]'sx).toNat : Int) := by assumption
          rw [Hx.rev_at x hx0 hx1] at hv
          have e := Hx.mid_last_bad hmid.out _ HP.out HL.out (by omega)
          go_region
          go_wp2
          go_ret2
          obtain ⟨rfl, rfl⟩ := Prod.mk.inj (hD.out.symm.trans e)
          exact ⟨by rw [hmid.out.1, errOf_bad a x hx0 hx1]; rfl, hrw.out.drew, Hx.grownBy_drew hgr.out⟩
        · have hv : ((Hx.rev[x.toNat]'sx).toNat : Int) ≤ 15 := by assumption
          rw [Hx.rev_at x hx0 hx1] at hv
          have e := Hx.mid_last_odd hmid.out _ HP.out HL.out (by omega)
          go_region
          go_wp2
          go_ret2
          obtain ⟨rfl, rfl⟩ := Prod.mk.inj (hD.out.symm.trans e)
          exact ⟨by rw [hmid.out.1]; rfl, hrw.out.drew, Hx.grownBy_drew hgr.out⟩
      · have hT : (n : Int) - 1 ≤ 2 * (k : Int) := by omega
        have hO : ((n : Int) % 2 == 1) = false := by simp; omega
        have hl : l.length = 2 * k := by rw [HB.out.1]; omega
        have e := Hx.mid_end hmid.out hl
        have HL := Lib.hid e
        clear hl e
        go_wp2
        go_ret2
        obtain ⟨rfl, rfl⟩ := Prod.mk.inj (hD.out.symm.trans HL.out)
        exact ⟨by rw [hmid.out.1]; rfl, hrw.out, hgr.out⟩

/-- '[]byte(s)': a new row that holds the bytes of s. -/
theorem RB.ofText (w : World) (s : ByteArray) : RB (Lib.bytesWorld w 5 s) (some ⟨w.heap.size, 0, none⟩) s.size s.data.toList :=
  ⟨Array.length_toList, fun hn => ⟨w.heap.size, 0, rfl, by rw [Lib.bytesWorld_size]; omega, fun i c hi => by
    have hi' : i < s.size := by have := (List.getElem?_eq_some_iff.1 hi).1; rwa [Array.length_toList] at this
    rw [Nat.zero_add, Lib.bytesWorld_cell w _ s i hi', List.getD_eq_getElem?_getD, hi]
    rfl⟩⟩
theorem below_bytesWorld (w : World) (s : ByteArray) : Below w.heap.size w (Lib.bytesWorld w 5 s) :=
  ⟨rfl, rfl, rfl, by rw [Lib.bytesWorld_size]; omega, fun k hk => Lib.bytesWorld_at_old w _ s k hk⟩

theorem RB.setOther {w : World} {A : Option Addr} {n : Nat} {l : List UInt8} (h : RB w A n l) {p : Addr} (hp : ∀ b o, A = some ⟨b, o, none⟩ → b ≠ p.block) (u : Value) : RB (w.setCell p u) A n l :=
  ⟨h.1, fun hn => by
    obtain ⟨b, o, e, hb, hc⟩ := h.2 hn
    exact ⟨b, o, e, by simpa [World.setCell] using hb, fun i c hi => (World.cell?_setCell_other w p ⟨b, o + i, none⟩ u (fun e' => hp b o e (by rw [e']))).trans (hc i c hi)⟩⟩

/-- The bytes at the head of a row. -/
theorem RB.ofRow {w : World} {G : Nat} {t : TypeId} {cap od : Nat} {f : Nat → Value} {D : List UInt8} (h : w.rowIs G t cap (Hx.rowP f od D)) (hD : od + D.length ≤ cap) : RB w (some ⟨G, od, none⟩) D.length D :=
  ⟨rfl, fun _ => ⟨G, od, rfl, h.lt, fun i c hi => by
    have hi' := (List.getElem?_eq_some_iff.1 hi).1
    rw [h.cell (by omega)]
    unfold Hx.rowP
    rw [if_pos (by omega), show od + i - od = i by omega, hi]
    rfl⟩⟩

set_option maxHeartbeats 1000000 in
set_option maxRecDepth 100000 in
/-- encoding/hex.DecodeString, at every text. -/
theorem hexDecodeString (s : ByteArray) (w : World) (a : Addr) (hE : ErrAt w a) (hbig : s.size ≤ 562949953421312) :
    Calls Tryd.prog 14 #[.string s] w fun e w' => ∃ c, e = .returned (.tuple #[.slice (some ⟨w.heap.size, 0, none⟩) (Hx.decode s.data.toList).1.length c, errOf a (Hx.decode s.data.toList).2]) ∧
      RB w' (some ⟨w.heap.size, 0, none⟩) (Hx.decode s.data.toList).1.length (Hx.decode s.data.toList).1 ∧ (Hx.decode s.data.toList).1.length ≤ c ∧ c ≤ 281474976710656 ∧ Below w.heap.size w w' ∧ w.heap.size < w'.heap.size := by
  have hdl0 := Hx.decode_len s.data.toList
  rw [← Lib.size_eq] at hdl0
  generalize hD0 : Hx.decode s.data.toList = D at hdl0 ⊢
  obtain ⟨D1, D2⟩ := D
  have hD := Lib.hid hD0
  have hdl : D1.length ≤ s.size / 2 := hdl0
  clear hD0 hdl0
  have hmk : ∀ w : World, (Instr.makeSlice 22 (.int .i64 ((s.size : Int) / 2)) (.int .i64 ((s.size : Int) / 2))).run Tryd.prog w = .ok (.slice (some ⟨w.heap.size, 0, none⟩) (s.size / 2) (s.size / 2)) (w.alloc (.cells (madeCells #[.int .u8 0] (s.size / 2)) 5)) := fun w => by
    have h := run_make_row' (P := Tryd.prog) 22 5 (.int .u8 0) 1 Tryd.underlying22 infoU8 rfl .i64 .i64 (s.size / 2) (by omega) (by omega) w
    rwa [show ((s.size / 2 : Nat) : Int) = (s.size : Int) / 2 by omega] at h
  have hcv := fun W => Lib.run_convert_string_bytes (P := Tryd.prog) W 9 22 5 s Tryd.underlying9 Tryd.underlying22 Tryd.underlying5
  have HE := Lib.hid hE
  have hgl : 0 < w.heap.size := World.block_lt_of_cell? w ⟨0, 0, none⟩ hE.1
  clear hE
  go_enter Tryd.func14, Tryd.ntmps14
  go_wp2_with (go_at_call 21; go_in)
  have hB1 := Lib.hid ((Below.refl _ w).alloc (Nat.le_refl _) (.cells (madeCells #[.int .u8 0] (s.size / 2)) 5))
  have hB2 := Lib.hid (hB1.out.trans ((below_bytesWorld (w.alloc (.cells (madeCells #[.int .u8 0] (s.size / 2)) 5)) s).mono hB1.out.size))
  have hR := Lib.hid (RB.ofText (w.alloc (.cells (madeCells #[.int .u8 0] (s.size / 2)) 5)) s)
  have hrow := Lib.hid ((World.rowIs_made w (.int .u8 0) (s.size / 2) 5).of_block (w' := Lib.bytesWorld (w.alloc (.cells (madeCells #[.int .u8 0] (s.size / 2)) 5)) 5 s) (Lib.bytesWorld_at_old _ _ s w.heap.size (by simp)))
  have hc := hexDecode 5 w.heap.size 0 (s.size / 2) (s.size / 2) (s.size / 2) (fun _ => .int .u8 0) _ s.size (grownCap (w.alloc (.cells (madeCells #[.int .u8 0] (s.size / 2)) 5)) s.size 0 5) s.data.toList _ a hR.out hrow.out (by omega) (by omega) (fun _ b o e => by
      injection e with e
      injection e with e1
      simp at e1
      omega) (by omega) (HE.out.below hB2.out) (by omega)
  rw [hD.out] at hc
  simp only [World.size_alloc] at hc
  refine hc.mono ?_
  rintro e w2 ⟨rfl, hrow', hgrow⟩
  have HR := Lib.hid (RB.ofRow hrow' (by omega))
  have HB := Lib.hid (hB2.out.grown hgrow (by simpa using hB2.out.size) (fun k hk => by cases hk; exact Nat.le_refl _))
  have hszF : w.heap.size < w2.heap.size := hrow'.lt
  clear hrow' hgrow hc
  have c1 : (0 : Int) ≤ (D1.length : Int) := by omega
  have c2 : (D1.length : Int) ≤ ((s.size / 2 : Nat) : Int) := by omega
  go_wp2
  go_ret2
  exact ⟨_, rfl, HR.out, hdl, by omega, HB.out, hszF⟩

end Go.Proofs.YtgkpekdgdiphdaaDoor
