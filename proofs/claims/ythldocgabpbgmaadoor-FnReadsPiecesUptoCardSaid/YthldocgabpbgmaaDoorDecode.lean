/-
  Contract: encoding/hex.Decode at an even number of bytes (dst a stretch of a row with room, src in another block).
-/
import Derived.Test.YthldocgabpbgmaaDoorLaid
import Derived.Test.YthldocgabpbgmaaDoorEncode
import Derived.Test.YthldocgabpbgmaaDoorPureDec
import Derived.Lib.ConvBytes
namespace Go.Proofs.YthldocgabpbgmaaDoor
open Go.RowKit Go.Lib
set_option linter.unusedVariables false

/-- The error that a decoding of pairs ends with. -/
def errEven : Hx.Out → Value
  | .bad c => .iface 55 (.int .u8 (c.toNat : Int))
  | _ => .nilIface

theorem errEven_bad (x : Int) (h0 : 0 ≤ x) (h1 : x < 256) : errEven (.bad (UInt8.ofNat x.toNat)) = .iface 55 (.int .u8 x) := by
  have : ((UInt8.ofNat x.toNat).toNat : Int) = x := by
    rw [UInt8.toNat_ofNat']
    omega
  show Value.iface _ (.int .u8 ((UInt8.ofNat x.toNat).toNat : Int)) = _
  rw [this]

set_option maxHeartbeats 2000000 in
set_option maxRecDepth 100000 in
theorem hexDecode (T : TypeId) (bd od nd cd N : Nat) (f : Nat → Value) (A : Option Addr) (n c : Nat) (l : List UInt8) (w : World)
    (h : RB w A n l) (hrow : w.rowIs bd T N f) (hfit : od + nd ≤ N) (hlen : n / 2 ≤ nd) (hne : 0 < n → ∀ b o, A = some ⟨b, o, none⟩ → bd ≠ b) (hbig : n ≤ 4611686018427387903) (heven : n % 2 = 0) :
    Calls Tryd.prog 35 #[.slice (some ⟨bd, od, none⟩) nd cd, .slice A n c] w fun e w' =>
      e = .returned (.tuple #[.int .i64 ((Hx.decode l).1.length : Int), errEven (Hx.decode l).2]) ∧ w'.rowIs bd T N (Hx.rowP f od (Hx.decode l).1) ∧ w.grownBy w' (some bd) := by
  generalize hD0 : Hx.decode l = D
  obtain ⟨D1, D2⟩ := D
  have hD := Lib.hid hD0
  clear hD0
  have HB := Lib.hid h
  have HNE := Lib.hid hne
  clear h hne
  go_enter Tryd.func35, Tryd.ntmps35
  go_wp2
  go_loopw [6, 7] (fun vi vj wr => ∃ (k : Nat) (pre : List UInt8), 2 * k ≤ n ∧ vi = .int .i64 k ∧ vj = .int .i64 ((2 * k : Nat) : Int) ∧ Hid (Hx.Mid l k pre) ∧ Hid (wr.rowIs bd T N (Hx.rowP f od pre)) ∧ Hid (w.grownBy wr (some bd))) (fun _ vj _ => n - (RowKit.intOf vj).toNat)
  case atStart => exact ⟨0, [], Nat.zero_le _, rfl, rfl, Hx.mid_zero _, hrow.congr (fun j _ => Hx.rowP_nil f od j), Hx.grownBy_refl _ _⟩
  case round =>
    obtain ⟨k, pre, hk, rfl, rfl, hmid, hrw, hgr⟩ := hrel
    by_cases hlt : 2 * k + 1 < n
    · obtain ⟨bs, os, cx, rfl, hbs, hlx, hcx0⟩ := HB.out.at_ (k := 2 * k) (by omega)
      obtain ⟨bs', os', cy, e', _, hly, hcy0⟩ := HB.out.at_ hlt
      obtain ⟨rfl, rfl⟩ : bs' = bs ∧ os' = os := by
        injection e' with e'
        injection e' with e1 e2
        exact ⟨e1.symm, e2.symm⟩
      have hbb : bd ≠ bs' := HNE.out (by omega) bs' os' rfl
      obtain ⟨x, hxk⟩ : ∃ x : Int, x = (cx.toNat : Int) := ⟨_, rfl⟩
      obtain ⟨y, hyk⟩ : ∃ y : Int, y = (cy.toNat : Int) := ⟨_, rfl⟩
      have hcx : wr.cell? ⟨bs', os' + 2 * k, none⟩ = some (.int .u8 x) := by rw [hxk]; exact hgr.out.cell hcx0 (by simp; omega)
      have hcy : wr.cell? ⟨bs', os' + (2 * k + 1), none⟩ = some (.int .u8 y) := by rw [hyk]; exact hgr.out.cell hcy0 (by simp; omega)
      have hx0 : 0 ≤ x := by omega
      have hx1 : x < 256 := by have := cx.toNat_lt; omega
      have hy0 : 0 ≤ y := by omega
      have hy1 : y < 256 := by have := cy.toNat_lt; omega
      have HP : Hid (l[2 * k]? = some (UInt8.ofNat x.toNat)) := by rw [hxk]; simpa [Hid] using hlx
      have HQ : Hid (l[2 * k + 1]? = some (UInt8.ofNat y.toNat)) := by rw [hyk]; simpa [Hid] using hly
      clear hxk hyk hlx hly hcx0 hcy0 e'
      have hf1 : wr.frozen? ⟨bd, od + k, none⟩ = false := hrw.out.frozen _
      have hc1 : wr.cell? ⟨bd, od + k, none⟩ = some (Hx.rowP f od pre (od + k)) := hrw.out.cell (by omega)
      have hT : 2 * (k : Int) < (n : Int) - 1 := by omega
      have sx : x.toNat < Hx.rev.size := by rw [Hx.rev_size]; omega
      have sy : y.toNat < Hx.rev.size := by rw [Hx.rev_size]; omega
      go_wp2
      · have hv : (15 : Int) < ((Hx.rev[x.toNat]'sx).toNat : Int) := by assumption
        rw [Hx.rev_at x hx0 hx1] at hv
        have e := Hx.mid_bad1 hmid.out _ _ HP.out HQ.out (by omega)
        go_ret2
        obtain ⟨rfl, rfl⟩ := Prod.mk.inj (hD.out.symm.trans e)
        exact ⟨by rw [hmid.out.1, errEven_bad x hx0 hx1]; rfl, hrw.out, hgr.out⟩
      · have hv1 : ((Hx.rev[x.toNat]'sx).toNat : Int) ≤ 15 := by assumption
        have hv : (15 : Int) < ((Hx.rev[y.toNat]'sy).toNat : Int) := by assumption
        rw [Hx.rev_at x hx0 hx1] at hv1
        rw [Hx.rev_at y hy0 hy1] at hv
        have e := Hx.mid_bad2 hmid.out _ _ HP.out HQ.out (by omega) (by omega)
        go_ret2
        obtain ⟨rfl, rfl⟩ := Prod.mk.inj (hD.out.symm.trans e)
        exact ⟨by rw [hmid.out.1, errEven_bad y hy0 hy1]; rfl, hrw.out, hgr.out⟩
      · have hv1 : ((Hx.rev[x.toNat]'sx).toNat : Int) ≤ 15 := by assumption
        have hv2 : ((Hx.rev[y.toNat]'sy).toNat : Int) ≤ 15 := by assumption
        have ex := Hx.rev_at x hx0 hx1 sx
        have ey := Hx.rev_at y hy0 hy1 sy
        rw [ex] at hv1
        rw [ey] at hv2
        go_roundw
        case rel =>
          refine ⟨k + 1, pre ++ [UInt8.ofNat (Hx.v (UInt8.ofNat x.toNat) * 16 + Hx.v (UInt8.ofNat y.toNat))], by omega, by go_num, by first | go_num | (congr 1; omega), Hx.mid_step hmid.out _ _ HP.out HQ.out (by omega) (by omega), (hrw.out.set _ _).congr (fun j _ => ?_), Hx.grownBy_set hgr.out _ rfl _⟩
          have e3 := Hx.rowP_step f od pre (UInt8.ofNat (Hx.v (UInt8.ofNat x.toNat) * 16 + Hx.v (UInt8.ofNat y.toNat))) j
          rw [hmid.out.1, ← Hx.or_digits _ _ (by omega) (by omega), ← ex, ← ey] at e3
          exact e3
        case measure => simp [RowKit.intOf]; omega
    · have hT : (n : Int) - 1 ≤ 2 * (k : Int) := by omega
      have hO : ((n : Int) % 2 == 1) = false := by simp; omega
      have hl : l.length = 2 * k := by rw [HB.out.1]; omega
      have e := Hx.mid_end hmid.out hl
      have HL := Lib.hid e
      clear hl e
      go_wp2
      go_ret2
      obtain ⟨rfl, rfl⟩ := Prod.mk.inj (hD.out.symm.trans HL.out)
      exact ⟨by rw [hmid.out.1]; rfl, hrw.out, hgr.out⟩

/-- '[]byte(s)': a new row that holds the bytes of s. -/
theorem RB.ofText (w : World) (s : ByteArray) : RB (Lib.bytesWorld w 5 s) (some ⟨w.heap.size, 0, none⟩) s.size s.data.toList :=
  ⟨Array.length_toList, fun hn => ⟨w.heap.size, 0, rfl, by rw [Lib.bytesWorld_size]; omega, fun i c hi => by
    have hi' : i < s.size := by have := (List.getElem?_eq_some_iff.1 hi).1; rwa [Array.length_toList] at this
    rw [Nat.zero_add, Lib.bytesWorld_cell w _ s i hi', List.getD_eq_getElem?_getD, hi]
    rfl⟩⟩
theorem below_bytesWorld (w : World) (s : ByteArray) : Below w.heap.size w (Lib.bytesWorld w 5 s) :=
  ⟨rfl, rfl, rfl, by rw [Lib.bytesWorld_size]; omega, fun k hk => Lib.bytesWorld_at_old w _ s k hk⟩

theorem RB.setOther {w : World} {A : Option Addr} {n : Nat} {l : List UInt8} (h : RB w A n l) {p : Addr} (hp : ∀ b o, A = some ⟨b, o, none⟩ → b ≠ p.block) (u : Value) : RB (w.setCell p u) A n l :=
  ⟨h.1, fun hn => by
    obtain ⟨b, o, e, hb, hc⟩ := h.2 hn
    exact ⟨b, o, e, by simpa [World.setCell] using hb, fun i c hi => (World.cell?_setCell_other w p ⟨b, o + i, none⟩ u (fun e' => hp b o e (by rw [e']))).trans (hc i c hi)⟩⟩

/-- The bytes at the head of a row. -/
theorem RB.ofRow {w : World} {G : Nat} {t : TypeId} {cap od : Nat} {f : Nat → Value} {D : List UInt8} (h : w.rowIs G t cap (Hx.rowP f od D)) (hD : od + D.length ≤ cap) : RB w (some ⟨G, od, none⟩) D.length D :=
  ⟨rfl, fun _ => ⟨G, od, rfl, h.lt, fun i c hi => by
    have hi' := (List.getElem?_eq_some_iff.1 hi).1
    rw [h.cell (by omega)]
    unfold Hx.rowP
    rw [if_pos (by omega), show od + i - od = i by omega, hi]
    rfl⟩⟩

end Go.Proofs.YthldocgabpbgmaaDoor
