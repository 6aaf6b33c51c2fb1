/-
  Contracts: encoding/hex.Encode where source and target lie in one block, apart from each other; encoding/hex.toChar.
-/
import Derived.Test.YtkhoifaakidfcaaSink
import Derived.Test.YtkhoifaakidfcaaDumpPure
namespace Go.Proofs.Ytkhoifaakidfcaa
open Go.RowKit Go.Lib
set_option linter.unusedVariables false

set_option maxHeartbeats 1000000 in
set_option maxRecDepth 100000 in
theorem hexEncodeSelf (T : TypeId) (bd od nd cd os c N n : Nat) (f : Nat → Value) (l : List UInt8) (w : World)
    (hl : l.length = n) (hf : ∀ i c, l[i]? = some c → f (os + i) = .int .u8 (c.toNat : Int)) (hrow : w.rowIs bd T N f) (hfit : od + nd ≤ N) (hlen : 2 * n ≤ nd) (hap : os + n ≤ od) (hbig : n ≤ 4611686018427387903) :
    Calls Try.prog 31 #[.slice (some ⟨bd, od, none⟩) nd cd, .slice (some ⟨bd, os, none⟩) n c] w fun e w' => e = .returned (.int .i64 ((n : Int) * 2)) ∧ w'.rowIs bd T N (Hx.row f od l n) ∧ w.grownBy w' (some bd) := by
  have HL := Lib.hid hl
  have HF := Lib.hid hf
  clear hl hf
  go_enter Try.func31, Try.ntmps31
  go_wp2
  go_loopw [5, 10] (fun vj vi wr => ∃ k : Nat, k ≤ n ∧ vi = .int .i64 k ∧ vj = .int .i64 ((2 * k : Nat) : Int) ∧ Hid (wr.rowIs bd T N (Hx.row f od l k)) ∧ Hid (w.grownBy wr (some bd))) (fun _ vi _ => n - (RowKit.intOf vi).toNat)
  case atStart => exact ⟨0, Nat.zero_le _, rfl, rfl, hrow.congr (fun j _ => Hx.row_zero f od _ j), Hx.grownBy_refl _ _⟩
  case round =>
    obtain ⟨k, hk, rfl, rfl, hrw, hgr⟩ := hrel
    by_cases hlt : k < n
    · obtain ⟨cc, hcc⟩ : ∃ cc, l[k]? = some cc := ⟨_, List.getElem?_eq_getElem (by rw [HL.out]; exact hlt)⟩
      have hcx0 : wr.cell? ⟨bd, os + k, none⟩ = some (.int .u8 (cc.toNat : Int)) := by
        rw [hrw.out.cell (by omega)]
        unfold Hx.row
        rw [if_neg (by omega), HF.out k cc hcc]
      obtain ⟨x, hxk⟩ : ∃ x : Int, x = (cc.toNat : Int) := ⟨_, rfl⟩
      have hcx : wr.cell? ⟨bd, os + k, none⟩ = some (.int .u8 x) := by rw [hxk]; exact hcx0
      have hx0 : 0 ≤ x := by omega
      have hx1 : x < 256 := by have := cc.toNat_lt; omega
      have HX : Hid (UInt8.ofNat x.toNat = cc) := by rw [hxk]; simp [Hid]
      have HC := Lib.hid hcc
      clear hxk hcx0 hcc
      have hf1 : wr.frozen? ⟨bd, od + 2 * k, none⟩ = false := hrw.out.frozen _
      have hc1 : wr.cell? ⟨bd, od + 2 * k, none⟩ = some (Hx.row f od l k (od + 2 * k)) := hrw.out.cell (by omega)
      have hf2 : ∀ v, (wr.setCell ⟨bd, od + 2 * k, none⟩ v).frozen? ⟨bd, od + (2 * k + 1), none⟩ = false := fun v => (hrw.out.set _ v).frozen _
      have hc2 : ∀ v, (wr.setCell ⟨bd, od + 2 * k, none⟩ v).cell? ⟨bd, od + (2 * k + 1), none⟩ = some (Hx.row f od l k (od + (2 * k + 1))) := fun v => by
        have := (hrw.out.set (od + 2 * k) v).cell (i := od + (2 * k + 1)) (by omega)
        rwa [if_neg (by omega)] at this
      go_wp2
      go_roundw
      case rel =>
        refine ⟨k + 1, by omega, by go_num, by first | go_num | (congr 1; omega), ((hrw.out.set _ _).set _ _).congr (fun j _ => ?_), Hx.grownBy_set (Hx.grownBy_set hgr.out _ rfl _) _ rfl _⟩
        have e1 := Hx.dig_hi x hx0 hx1 (by show _ < 16; omega)
        have e2 := Hx.dig_lo x hx0 hx1 (by show _ < 16; omega)
        have e3 := Hx.row_step f od l k (UInt8.ofNat x.toNat) (by rw [HX.out]; exact HC.out) j
        rw [← e1, ← e2] at e3
        exact e3
      case measure => simp [RowKit.intOf]; omega
    · have hk2 : k = n := by omega
      subst hk2
      go_wp2
      go_ret
      exact ⟨rfl, hrw.out, hgr.out⟩

set_option maxHeartbeats 400000 in
theorem hexToChar (c : UInt8) (w : World) : Calls Try.prog 66 #[.int .u8 (c.toNat : Int)] w fun e w' => e = .returned (.int .u8 ((Dm.toCh c).toNat : Int)) ∧ w = w' := by
  obtain ⟨x, hx⟩ : ∃ x : Int, (c.toNat : Int) = x := ⟨_, rfl⟩
  have HT : Hid ((Dm.toCh c).toNat = if x < 32 ∨ 126 < x then 46 else x.toNat) := by
    unfold Dm.toCh
    simp only [Hid]
    by_cases h : c.toNat < 32 ∨ 126 < c.toNat
    · rw [if_pos h, if_pos (by omega)]; rfl
    · rw [if_neg h, if_neg (by omega)]; omega
  have h0 : 0 ≤ x := by omega
  have h1 : x < 256 := by have := c.toNat_lt; omega
  rw [hx]
  clear hx
  by_cases h : x < 32
  · go_enter Try.func66, Try.ntmps66
    go_wp2
    go_ret
    exact ⟨ret_int (by rw [HT.out, if_pos (by omega)]; rfl), rfl⟩
  · by_cases h2 : 126 < x
    · go_enter Try.func66, Try.ntmps66
      go_wp2
      go_ret
      exact ⟨ret_int (by rw [HT.out, if_pos (by omega)]; rfl), rfl⟩
    · go_enter Try.func66, Try.ntmps66
      go_wp2
      go_ret
      exact ⟨ret_int (by rw [HT.out, if_neg (by omega)]; omega), rfl⟩

end Go.Proofs.Ytkhoifaakidfcaa
