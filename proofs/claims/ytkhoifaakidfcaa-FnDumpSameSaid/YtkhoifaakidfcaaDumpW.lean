/-
  Contract: encoding/hex's dumper, its Write, over a sink.
-/
import Derived.Test.YtkhoifaakidfcaaStt
import Derived.Deep.DrawnRows
import Derived.Shelf.Abstract
namespace Go.Proofs.Ytkhoifaakidfcaa
open Go.RowKit Go.Lib
set_option linter.unusedVariables false
attribute [local go_sem ↓] Go.wp_at_zero Go.wp_at_succ

theorem ofNat_int (m : Nat) : (((UInt8.ofNat m).toNat : Nat) : Int) = (m : Int) % 256 := by rw [UInt8.toNat_ofNat']; omega

theorem adr_cells (N : Nat) (f : Nat → Value) : ∀ i c, [UInt8.ofNat (N / 16777216), UInt8.ofNat (N / 65536), UInt8.ofNat (N / 256), UInt8.ofNat N][i]? = some c →
    upd (upd (upd (upd f 19 (.int .u8 ((N : Int) / 16777216 % 256))) 20 (.int .u8 ((N : Int) / 65536 % 256))) 21 (.int .u8 ((N : Int) / 256 % 256))) 22 (.int .u8 ((N : Int) % 256)) (19 + i) = .int .u8 (c.toNat : Int) := by
  intro i c hi
  match i with
  | 0 => simp at hi; subst hi; simp only [upd]; rw [ofNat_int]; simp
  | 1 => simp at hi; subst hi; simp only [upd]; rw [ofNat_int]; simp
  | 2 => simp at hi; subst hi; simp only [upd]; rw [ofNat_int]; simp
  | 3 => simp at hi; subst hi; simp only [upd]; rw [ofNat_int]; simp
  | i + 4 => simp at hi

theorem adr_out (N : Nat) (g : Nat → Value) : ∀ i c, (Dm.adr N ++ [32, 32])[i]? = some c →
    upd (upd (Hx.row g 23 [UInt8.ofNat (N / 16777216), UInt8.ofNat (N / 65536), UInt8.ofNat (N / 256), UInt8.ofNat N] 4) 31 (.int .u8 32)) 32 (.int .u8 32) (23 + i) = .int .u8 (c.toNat : Int) := by
  intro i c hi
  have hl := Dm.adr_len N
  rcases Nat.lt_or_ge i 8 with h | h
  · rw [List.getElem?_append_left (by omega)] at hi
    simp only [upd]
    rw [if_neg (by omega), if_neg (by omega)]
    unfold Hx.row
    rw [if_pos ⟨by omega, by omega⟩, Nat.add_sub_cancel_left]
    unfold Dm.adr at hi
    rw [hi]
    rfl
  · rw [List.getElem?_append_right (by omega), hl] at hi
    match i with
    | 8 => simp at hi; subst hi; simp [upd]
    | 9 => simp at hi; subst hi; simp [upd]
    | i + 10 => simp at hi

theorem cut_one (ba oa c k : Nat) (hk : k < c) : cutA (some ⟨ba, oa, none⟩) c k = some ⟨ba, oa + k, none⟩ := by
  unfold cutA
  rw [if_neg (by omega), Option.map_some]
  unfold Addr.add
  split
  · rename_i h0; subst h0; simp
  · rfl

theorem right_old {f g : Nat → Value} {a : List UInt8} (h : ∀ i c, (Dm.cur a)[i]? = some c → f (1 + i) = .int .u8 ((Dm.toCh c).toNat : Int)) (hg : Alk f g) : ∀ i c, (Dm.cur a)[i]? = some c → g (1 + i) = .int .u8 ((Dm.toCh c).toNat : Int) := by
  intro i c hi
  have hl := (List.getElem?_eq_some_iff.1 hi).1
  rw [Dm.cur_len] at hl
  rw [hg (1 + i) (by omega)]
  exact h i c hi

theorem right_new {f : Nat → Value} {a : List UInt8} {u : Nat} (cc : UInt8) (hu : a.length % 16 = u) (h : ∀ i c, (Dm.cur a)[i]? = some c → f (1 + i) = .int .u8 ((Dm.toCh c).toNat : Int)) (hf : f (1 + u) = .int .u8 ((Dm.toCh cc).toNat : Int)) :
    ∀ i c, (Dm.cur a ++ [cc])[i]? = some c → f (1 + i) = .int .u8 ((Dm.toCh c).toNat : Int) := by
  intro i c hi
  have hl := Dm.cur_len a
  rcases Nat.lt_or_ge i u with h1 | h1
  · rw [List.getElem?_append_left (by omega)] at hi
    exact h i c hi
  · rw [List.getElem?_append_right (by omega), hl, hu] at hi
    have : i = u := by
      have := (List.getElem?_eq_some_iff.1 hi).1
      simp at this
      omega
    subst this
    simp at hi
    subst hi
    exact hf

theorem cur_snoc (a : List UInt8) (c : UInt8) (h : a.length % 16 ≠ 15) : Dm.cur (a ++ [c]) = Dm.cur a ++ [c] := by
  have e1 : (a ++ [c]).length / 16 = a.length / 16 := by rw [List.length_append]; simp; omega
  unfold Dm.cur
  rw [e1, List.drop_append_of_le_length (by omega)]

theorem cur_snoc15 (a : List UInt8) (c : UInt8) (h : a.length % 16 = 15) : Dm.cur (a ++ [c]) = [] := by
  apply List.eq_nil_of_length_eq_zero
  rw [Dm.cur_len, List.length_append]; simp; omega

theorem map_cells {f : Nat → Value} {l : List UInt8} (h : ∀ i c, l[i]? = some c → f (1 + i) = .int .u8 ((Dm.toCh c).toNat : Int)) {n : Nat} (hl : l.length = n) (h1 : f (1 + n) = .int .u8 124) (h2 : f (2 + n) = .int .u8 10) :
    ∀ i x, (l.map Dm.toCh ++ [124, 10])[i]? = some x → f (1 + i) = .int .u8 (x.toNat : Int) := by
  intro i x hi
  rcases Nat.lt_or_ge i n with h3 | h3
  · rw [List.getElem?_append_left (by rw [List.length_map]; omega), List.getElem?_map] at hi
    cases hc : l[i]? with
    | none => rw [hc] at hi; cases hi
    | some c =>
      rw [hc] at hi
      simp at hi
      subst hi
      exact h i c hc
  · rw [List.getElem?_append_right (by rw [List.length_map]; omega), List.length_map, hl] at hi
    obtain ⟨m, rfl⟩ : ∃ m, i = n + m := ⟨i - n, by omega⟩
    rw [Nat.add_sub_cancel_left] at hi
    match m with
    | 0 => simp at hi; subst hi; exact h1
    | 1 => simp at hi; subst hi; rw [show 1 + (n + 1) = 2 + n by omega]; exact h2
    | m + 2 => simp at hi

theorem Fld.out (T b : Nat) {a : List UInt8} {f g : Nat → Value} (h : Fld T b a f) (hg : Alk f g) : Fld T b a g :=
  ⟨by rw [hg 0 (by omega)]; exact h.1, by rw [hg 33 (by omega)]; exact h.2.1, by rw [hg 34 (by omega)]; exact h.2.2.1, by rw [hg 35 (by omega)]; exact h.2.2.2.1, right_old h.2.2.2.2 hg⟩

theorem Fld.next {T b : Nat} {a : List UInt8} {f g : Nat → Value} {u oR : Nat} (cc : UInt8) (h : Fld T b a f) (hg : Alk f g) (hu : a.length % 16 = u) (hu15 : u ≠ 15) (hoR : oR = 1 + u) (v33 v34 : Int) (h33 : v33 = u + 1) (h34 : v34 = a.length + 1) :
    Fld T b (a ++ [cc]) (upd (upd (upd g oR (.int .u8 ((Dm.toCh cc).toNat : Int))) 33 (.int .i64 v33)) 34 (.int .u64 v34)) := by
  have hl : (a ++ [cc]).length = a.length + 1 := by simp
  refine ⟨?_, ?_, ?_, ?_, ?_⟩
  · simp only [upd]
    rw [if_neg (by omega), if_neg (by omega), if_neg (by omega), hg 0 (by omega), h.1]
  · simp only [upd]
    rw [if_neg (by omega), if_pos trivial, hl, h33]
    congr 1
    omega
  · simp only [upd]
    rw [if_pos trivial, hl, h34]
    congr 1
  · simp only [upd]
    rw [if_neg (by omega), if_neg (by omega), if_neg (by omega), hg 35 (by omega), h.2.2.2.1]
  · rw [cur_snoc a cc (by omega)]
    refine right_new cc hu (fun i c hi => ?_) ?_
    · have hi2 := (List.getElem?_eq_some_iff.1 hi).1
      rw [Dm.cur_len] at hi2
      simp only [upd]
      rw [if_neg (by omega), if_neg (by omega), if_neg (by omega)]
      exact right_old h.2.2.2.2 hg i c hi
    · simp only [upd]
      rw [if_neg (by omega), if_neg (by omega), if_pos (by omega)]

def end15 (g : Nat → Value) (cc : UInt8) (v34 : Int) : Nat → Value := upd (upd (upd (upd (upd g 16 (.int .u8 ((Dm.toCh cc).toNat : Int))) 33 (.int .i64 16)) 34 (.int .u64 v34)) 17 (.int .u8 124)) 18 (.int .u8 10)

theorem right15 {T b : Nat} {a : List UInt8} {f g : Nat → Value} (cc : UInt8) (h : Fld T b a f) (hg : Alk f g) (hu : a.length % 16 = 15) (v34 : Int) :
    ∀ i x, ((Dm.cur a ++ [cc]).map Dm.toCh ++ [124, 10])[i]? = some x → end15 g cc v34 (1 + i) = .int .u8 (x.toNat : Int) := by
  have hl : (Dm.cur a ++ [cc]).length = 16 := by rw [List.length_append, Dm.cur_len]; simp; omega
  refine map_cells (f := end15 g cc v34) (n := 16) (right_new (u := 15) cc hu (fun i c hi => ?_) ?_) hl ?_ ?_
  · have hi2 := (List.getElem?_eq_some_iff.1 hi).1
    rw [Dm.cur_len] at hi2
    simp only [end15, upd]
    rw [if_neg (by omega), if_neg (by omega), if_neg (by omega), if_neg (by omega), if_neg (by omega)]
    exact right_old h.2.2.2.2 hg i c hi
  · simp [end15, upd]
  · simp [end15, upd]
  · simp [end15, upd]

theorem Fld.next15 {T b : Nat} {a : List UInt8} {f g : Nat → Value} (cc : UInt8) (h : Fld T b a f) (hg : Alk f g) (hu : a.length % 16 = 15) (v34 : Int) (h34 : v34 = a.length + 1) :
    Fld T b (a ++ [cc]) (upd (end15 g cc v34) 33 (.int .i64 0)) := by
  have hl : (a ++ [cc]).length = a.length + 1 := by simp
  refine ⟨?_, ?_, ?_, ?_, ?_⟩
  · simp only [upd, end15]
    rw [if_neg (by omega), if_neg (by omega), if_neg (by omega), if_neg (by omega), if_neg (by omega), if_neg (by omega), hg 0 (by omega), h.1]
  · simp only [upd]
    rw [if_pos trivial, hl]
    congr 1
    omega
  · simp only [upd, end15]
    rw [if_neg (by omega), if_neg (by omega), if_neg (by omega), if_pos trivial, hl, h34]
    congr 1
  · simp only [upd, end15]
    rw [if_neg (by omega), if_neg (by omega), if_neg (by omega), if_neg (by omega), if_neg (by omega), if_neg (by omega), hg 35 (by omega), h.2.2.2.1]
  · rw [cur_snoc15 a cc hu]
    intro i c hi
    simp at hi

set_option maxHeartbeats 20000000 in
set_option maxRecDepth 100000 in
theorem dmpWrite (T F b d : Nat) (w0 : World) (S : List UInt8 → World → Prop) (hS : IsSink T F b w0.heap.size S) (hd : w0.heap.size ≤ d) (hdb : d ≠ b)
    (A : Option Addr) (n c : Nat) (l acc : List UInt8) (w : World) (f00 : Nat → Value) (h : RB w0 A n l) (hc : n ≤ c) (hcm : c ≤ 9223372036854775807) (hs : Stt S w0 d (Dm.outL acc) f00 w) (he : Fld T b acc f00) (hbig : 33 * (acc.length + n) + 100 ≤ 140737488355328) :
    Calls Try.prog 64 #[.pointer (some ⟨d, 0, none⟩), .slice A n c] w fun e w' => e = .returned (.tuple #[.int .i64 n, .nilIface]) ∧ ∃ f, Stt S w0 d (Dm.outL (acc ++ l)) f w' ∧ Fld T b (acc ++ l) f := by
  have HR0 := Lib.hid h
  have HL : Hid (l.length = n) := h.1
  have HM := hS.meth
  have HEn := hS.ent
  have HSK := Lib.hid hS
  have c35 : w.cell? ⟨d, 35, none⟩ = some (.bool false) := by rw [hs.cell 35 (by omega), he.2.2.2.1]
  have HSt0 := Lib.hid hs
  have HF0 := Lib.hid he
  clear h hs he hS
  go_enter Try.func64, Try.ntmps64
  go_wp2_with fail
  clear c35
  go_loopw [4, 5, 15] (fun vn ve vi wr => ∃ k : Nat, k ≤ n ∧ vi = .int .i64 k ∧ vn = .int .i64 k ∧ ve = .nilIface ∧ Hid (∃ f, Stt S w0 d (Dm.outL (acc ++ l.take k)) f wr ∧ Fld T b (acc ++ l.take k) f)) (fun _ _ vi _ => n - (RowKit.intOf vi).toNat)
  case atStart => exact ⟨0, Nat.zero_le _, rfl, rfl, rfl, ⟨f00, by simpa using HSt0.out, by simpa using HF0.out⟩⟩
  case round =>
    obtain ⟨k, hk, rfl, rfl, rfl, hE⟩ := hrel
    by_cases hlt : k < n
    · obtain ⟨a, ha⟩ : ∃ a, acc ++ l.take k = a := ⟨_, rfl⟩
      have hal : Hid (a.length = acc.length + k) := by rw [Hid, ← ha, List.length_append, List.length_take, HL.out]; omega
      obtain ⟨ba, oa, cc, rfl, hba, hcc, hcell⟩ := HR0.out.at_ hlt
      have HA : Hid (acc ++ l.take (k + 1) = a ++ [cc]) := by
        obtain ⟨hk', e⟩ := List.getElem?_eq_some_iff.1 hcc
        rw [Hid, List.take_succ_eq_append_getElem hk', e, ← List.append_assoc, ha]
      rw [ha] at hE
      clear ha hcc
      obtain ⟨f, hst, hfl⟩ := hE.out
      obtain ⟨u, hu⟩ : ∃ u, a.length % 16 = u := ⟨_, rfl⟩
      obtain ⟨N, hN⟩ : ∃ N, a.length = N := ⟨_, rfl⟩
      have hu16 : u < 16 := by omega
      have hN1 : 33 * N + 133 ≤ 140737488355328 := by have := hal.out; omega
      have hx : (Dm.outL a).length ≤ 33 * N := by rw [← hN]; exact Dm.outL_len a
      have HU := Lib.hid hu
      have HN := Lib.hid hN
      have HFl := Lib.hid hfl
      have HSt := Lib.hid hst
      have HCell := Lib.hid hcell
      have hbd : d ≠ ba := by omega
      have hp1 : IntKind.i64.wrap ((k : Int) + 1) = (k : Int) + 1 := IntWalk.i64_in _ (by omega)
      have hkc : (k : Int) + 1 ≤ (c : Int) := by omega
      have hkn : (k : Int) < (n : Int) := by omega
      have hk0 : (0 : Int) ≤ (k : Int) := by omega
      clear hst hfl hE hu hN hcell
      have F0 := HFl.out.1
      have F33 : f 33 = .int .i64 (u : Int) := by rw [HFl.out.2.1, HU.out]
      have F34 : f 34 = .int .u64 (N : Int) := by rw [HFl.out.2.2.1, HN.out]
      have HF0 := Lib.hid F0
      have HF33 := Lib.hid F33
      have HF34 := Lib.hid F34
      clear F0 F33 F34
      by_cases h0 : u = 0
      · subst h0
        have c33 : wr.cell? ⟨d, 33, none⟩ = some (.int .i64 0) := by rw [HSt.out.cell 33 (by omega), HF33.out]; rfl
        have c34 : wr.cell? ⟨d, 34, none⟩ = some (.int .u64 (N : Int)) := by rw [HSt.out.cell 34 (by omega), HF34.out]
        have c19 : wr.cell? ⟨d, 19, none⟩ = some (f 19) := HSt.out.cell 19 (by omega)
        have c20 : wr.cell? ⟨d, 20, none⟩ = some (f 20) := HSt.out.cell 20 (by omega)
        have c21 : wr.cell? ⟨d, 21, none⟩ = some (f 21) := HSt.out.cell 21 (by omega)
        have c22 : wr.cell? ⟨d, 22, none⟩ = some (f 22) := HSt.out.cell 22 (by omega)
        have z19 : wr.frozen? ⟨d, 19, none⟩ = false := HSt.out.fz _
        have z20 : wr.frozen? ⟨d, 20, none⟩ = false := HSt.out.fz _
        have z21 : wr.frozen? ⟨d, 21, none⟩ = false := HSt.out.fz _
        have z22 : wr.frozen? ⟨d, 22, none⟩ = false := HSt.out.fz _
        have HS1 := Lib.hid (((((((((HSt.out.set HSK.out hd hdb 19 (.int .u8 ((N : Int) / 16777216 % 256))).set HSK.out hd hdb 20 (.int .u8 ((N : Int) / 65536 % 256))).set HSK.out hd hdb 21 (.int .u8 ((N : Int) / 256 % 256))).set HSK.out hd hdb 22 (.int .u8 ((N : Int) % 256))).drew HSK.out).drew HSK.out).drew HSK.out).drew HSK.out).drew HSK.out)
        go_wp2_with fail
        go_region
        go_wp2_with fail
        go_region
        go_wp2_with fail
        go_region
        go_wp2_with fail
        go_region
        go_wp2_with fail
        go_region_with (go_at_call 31; (refine (hexEncodeSelf 66 d 23 10 10 19 14 36 4 _ _ _ rfl (adr_cells N f) HS1.out.2.1 (by omega) (by omega) (by omega) (by omega)).mono ?_; rintro e w1 ⟨rfl, hr1, hg1⟩))
        have HS2 := Lib.hid (HS1.out.enc HSK.out hd hdb hg1 hr1)
        clear hr1 hg1 HS1 c33 c34 c19 c20 c21 c22 z19 z20 z21 z22
        have A1 : Hid (Alk f (Hx.row (upd (upd (upd (upd f 19 (.int .u8 ((N : Int) / 16777216 % 256))) 20 (.int .u8 ((N : Int) / 65536 % 256))) 21 (.int .u8 ((N : Int) / 256 % 256))) 22 (.int .u8 ((N : Int) % 256))) 23 [UInt8.ofNat (N / 16777216), UInt8.ofNat (N / 65536), UInt8.ofNat (N / 256), UInt8.ofNat N] 4)) := (((((Alk.refl f).upd 19 (by omega) (by omega) _).upd 20 (by omega) (by omega) _).upd 21 (by omega) (by omega) _).upd 22 (by omega) (by omega) _).row _ _ _ (by omega) (by omega)
        have AO : Hid _ := adr_out N (upd (upd (upd (upd f 19 (.int .u8 ((N : Int) / 16777216 % 256))) 20 (.int .u8 ((N : Int) / 65536 % 256))) 21 (.int .u8 ((N : Int) / 256 % 256))) 22 (.int .u8 ((N : Int) % 256)))
        generalize Hx.row (upd (upd (upd (upd f 19 (.int .u8 ((N : Int) / 16777216 % 256))) 20 (.int .u8 ((N : Int) / 65536 % 256))) 21 (.int .u8 ((N : Int) / 256 % 256))) 22 (.int .u8 ((N : Int) % 256))) 23 [UInt8.ofNat (N / 16777216), UInt8.ofNat (N / 65536), UInt8.ofNat (N / 256), UInt8.ofNat N] 4 = g1 at *
        have c0 : w1.cell? ⟨d, 0, none⟩ = some (.iface T (.pointer (some ⟨b, 0, none⟩))) := by rw [HS2.out.cell 0 (by omega), A1.out 0 (by omega), HF0.out]
        have c31 : w1.cell? ⟨d, 31, none⟩ = some (g1 31) := HS2.out.cell 31 (by omega)
        have c32 : w1.cell? ⟨d, 32, none⟩ = some (g1 32) := HS2.out.cell 32 (by omega)
        have z31 : w1.frozen? ⟨d, 31, none⟩ = false := HS2.out.fz _
        have z32 : w1.frozen? ⟨d, 32, none⟩ = false := HS2.out.fz _
        have HS3 := Lib.hid (((HS2.out.set HSK.out hd hdb 31 (.int .u8 32)).set HSK.out hd hdb 32 (.int .u8 32)).drew HSK.out)
        go_wp2_with fail
        go_region_with (go_at_fn F; (refine (HS3.out.write HSK.out hdb 23 10 10 (Dm.adr N ++ [32, 32]) (by rw [List.length_append, Dm.adr_len]; rfl) AO.out (by omega) (by omega)).mono ?_; rintro e w2 ⟨rfl, hs4⟩))
        have HG := Lib.hid ((A1.out.upd 31 (by omega) (by omega) (.int .u8 32)).upd 32 (by omega) (by omega) (.int .u8 32))
        have HSx := Lib.hid hs4
        have hxl : (Dm.outL a ++ (Dm.adr N ++ [32, 32])).length ≤ 33 * N + 10 := by have := Dm.adr_len N; simp [this]; omega
        have HX : Hid (Dm.outL a ++ (Dm.adr N ++ [32, 32]) = Dm.outL a ++ (if a.length % 16 = 0 then Dm.adr a.length ++ [32, 32] else [])) := by rw [Hid, if_pos HU.out, HN.out]
        clear hs4 HS3 HS2 c0 c31 c32 z31 z32 AO A1
        generalize upd (upd g1 31 (.int .u8 32)) 32 (.int .u8 32) = g at *
        generalize Dm.outL a ++ (Dm.adr N ++ [32, 32]) = x at *
        have c33 : w2.cell? ⟨d, 33, none⟩ = some (.int .i64 0) := by rw [HSx.out.cell 33 (by omega), HG.out 33 (by omega), HF33.out]; rfl
        have HD : Hid (RB w2.drew (some ⟨ba, oa + k, none⟩) 1 [cc]) := ⟨rfl, fun _ => ⟨ba, oa + k, rfl, Nat.lt_of_lt_of_le hba HSx.out.size, fun i x hi => by
          cases i with
          | zero => simp at hi; subst hi; simpa using (HSx.out.2.2.drew.cell (p := ⟨ba, oa + k, none⟩) hba).trans HCell.out
          | succ i => simp at hi⟩⟩
        have hne : Hid (0 < 1 → ∀ bb oo, some (⟨ba, oa + k, none⟩ : Addr) = some ⟨bb, oo, none⟩ → d ≠ bb) := fun _ bb oo e => by
          injection e with e
          injection e with e1
          omega
        have HSd := Lib.hid (HSx.out.drew HSK.out)
        go_wp2_with fail
        go_region_with (go_at_call 31; (refine (hexEncode 66 d 19 14 14 36 g (some ⟨ba, oa + k, none⟩) 1 (c - k) [cc] _ HD.out HSd.out.2.1 (by omega) (by omega) hne.out (by omega)).mono ?_; rintro e w3 ⟨rfl, hr3, hg3⟩))
        have HS5 := Lib.hid (HSd.out.enc HSK.out hd hdb hg3 hr3)
        have A5 : Hid (Alk f (Hx.row g 19 [cc] 1)) := HG.out.row 19 [cc] 1 (by omega) (by omega)
        have D5 : Hid (∀ i x, (Hx.encode [cc])[i]? = some x → Hx.row g 19 [cc] 1 (19 + i) = .int .u8 (x.toNat : Int)) := fun i x h => row1_at g cc i x h
        clear hr3 hg3 HSd HD hne c33 HSx HG
        generalize Hx.row g 19 [cc] 1 = g5 at *
        have c0 : w3.cell? ⟨d, 0, none⟩ = some (.iface T (.pointer (some ⟨b, 0, none⟩))) := by rw [HS5.out.cell 0 (by omega), A5.out 0 (by omega), HF0.out]
        have c33 : w3.cell? ⟨d, 33, none⟩ = some (.int .i64 0) := by rw [HS5.out.cell 33 (by omega), A5.out 33 (by omega), HF33.out]; rfl
        have c21 : w3.cell? ⟨d, 21, none⟩ = some (g5 21) := HS5.out.cell 21 (by omega)
        have z21 : w3.frozen? ⟨d, 21, none⟩ = false := HS5.out.fz _
        have HS6 := Lib.hid ((HS5.out.set HSK.out hd hdb 21 (.int .u8 32)).drew HSK.out)
        have O6 : Hid (∀ i x, (Hx.encode [cc] ++ [32])[i]? = some x → (upd g5 21 (.int .u8 32)) (19 + i) = .int .u8 (x.toNat : Int)) := by
          refine byte_cells _ cc [32] (fun i x hi => ?_) (fun i x hi => ?_)
          · match i with
            | 0 => simp at hi; subst hi; simp [upd]
            | i + 1 => simp at hi
          · have hi2 := (List.getElem?_eq_some_iff.1 hi).1
            rw [Hx.encode_length] at hi2
            simp at hi2
            simp only [upd]
            rw [if_neg (by omega)]
            exact D5.out i x hi
        go_wp2_with fail
        go_region_with (go_at_fn F; (refine (HS6.out.write HSK.out hdb 19 3 14 (Hx.encode [cc] ++ [32]) (by rw [List.length_append, Hx.encode_length]; rfl) O6.out (by omega) (by omega)).mono ?_; rintro e w4 ⟨rfl, hs7⟩))
        have HS7 := Lib.hid hs7
        have A7 : Hid (Alk f (upd g5 21 (.int .u8 32))) := (A5.out.upd 21 (by omega) (by omega) (.int .u8 32))
        clear hs7 HS6 HS5 O6 D5 c0 c33 c21 z21
        generalize upd g5 21 (.int .u8 32) = g7 at *
        have c33 : w4.cell? ⟨d, 33, none⟩ = some (.int .i64 0) := by rw [HS7.out.cell 33 (by omega), A7.out 33 (by omega), HF33.out]; rfl
        have c34 : w4.cell? ⟨d, 34, none⟩ = some (.int .u64 (N : Int)) := by rw [HS7.out.cell 34 (by omega), A7.out 34 (by omega), HF34.out]
        have z33 : w4.frozen? ⟨d, 33, none⟩ = false := HS7.out.fz _
        have z34 : w4.frozen? ⟨d, 34, none⟩ = false := HS7.out.fz _
        have cd : w4.cell? ⟨ba, oa + k, none⟩ = some (.int .u8 (cc.toNat : Int)) := (HS7.out.2.2.cell (p := ⟨ba, oa + k, none⟩) hba).trans HCell.out
        have cr : w4.cell? ⟨d, 1, none⟩ = some (g7 (1)) := HS7.out.cell _ (by omega)
        have zr : w4.frozen? ⟨d, 1, none⟩ = false := HS7.out.fz _
        have k33 : ∀ v, (w4.setCell ⟨d, 1, none⟩ v).cell? ⟨d, 33, none⟩ = some (.int .i64 0) := fun v => by rw [World.cell?_setCell_other _ _ _ _ (by simp; try omega)]; exact c33
        go_wp2_with fail
        go_region_held3 (fun w' => w'.cell? ⟨d, 33, none⟩ = some (.int .i64 0) ∧ w'.cell? ⟨ba, oa + k, none⟩ = some (.int .u8 (cc.toNat : Int))) (go_keep)
          (first | (go_at_call 66; refine (hexToChar cc _).mono ?_; rintro e w' ⟨rfl, rfl⟩))
        have EX : Hid (Dm.outL (a ++ [cc]) = x ++ (Hx.encode [cc] ++ [32])) := by
          rw [Hid, Dm.step, ← HX.out, HU.out]
          simp [Dm.tail1]
        have HFin : Hid (∃ f', Stt S w0 d (Dm.outL (acc ++ l.take (k + 1))) f' ((((w4.setCell ⟨d, 1, none⟩ (.int .u8 ((Dm.toCh cc).toNat : Int))).setCell ⟨d, 33, none⟩ (.int .i64 1)).setCell ⟨d, 34, none⟩ (.int .u64 ((N : Int) + 1))).drew) ∧ Fld T b (acc ++ l.take (k + 1)) f') := by
          rw [Hid, HA.out, EX.out]
          exact ⟨_, (((HS7.out.set HSK.out hd hdb (1) (.int .u8 ((Dm.toCh cc).toNat : Int))).set HSK.out hd hdb 33 (.int .i64 1)).set HSK.out hd hdb 34 (.int .u64 ((N : Int) + 1))).drew HSK.out, HFl.out.next cc A7.out HU.out (by omega) (by omega) _ _ (by omega) (by rw [HN.out])⟩
        clear EX
        go_wp2_with fail
        go_roundw
        case rel => exact ⟨k + 1, by omega, by go_num, by go_num, rfl, HFin⟩
        case measure => simp [RowKit.intOf]; omega
      by_cases h7 : u = 7
      · subst h7
        obtain ⟨w2, hw2⟩ : ∃ w2, wr = w2 := ⟨_, rfl⟩
        subst hw2
        obtain ⟨g, hg⟩ : ∃ g, g = f := ⟨_, rfl⟩
        have HG : Hid (Alk f g) := by rw [hg]; exact Alk.refl f
        obtain ⟨x, hxe⟩ : ∃ x, x = Dm.outL a := ⟨_, rfl⟩
        have HSx : Hid (Stt S w0 d x g wr) := by rw [hg, hxe]; exact HSt.out
        have hxl : x.length ≤ 33 * N + 10 := by rw [hxe]; omega
        have HX : Hid (x = Dm.outL a ++ (if a.length % 16 = 0 then Dm.adr a.length ++ [32, 32] else [])) := by rw [Hid, if_neg (by rw [HU.out]; omega), hxe]; simp
        clear hg hxe
        have c33 : wr.cell? ⟨d, 33, none⟩ = some (.int .i64 7) := by rw [HSx.out.cell 33 (by omega), HG.out 33 (by omega), HF33.out]; rfl
        have HD : Hid (RB wr.drew (some ⟨ba, oa + k, none⟩) 1 [cc]) := ⟨rfl, fun _ => ⟨ba, oa + k, rfl, Nat.lt_of_lt_of_le hba HSx.out.size, fun i x hi => by
          cases i with
          | zero => simp at hi; subst hi; simpa using (HSx.out.2.2.drew.cell (p := ⟨ba, oa + k, none⟩) hba).trans HCell.out
          | succ i => simp at hi⟩⟩
        have hne : Hid (0 < 1 → ∀ bb oo, some (⟨ba, oa + k, none⟩ : Addr) = some ⟨bb, oo, none⟩ → d ≠ bb) := fun _ bb oo e => by
          injection e with e
          injection e with e1
          omega
        have HSd := Lib.hid (HSx.out.drew HSK.out)
        go_wp2_with fail
        go_region_with (go_at_call 31; (refine (hexEncode 66 d 19 14 14 36 g (some ⟨ba, oa + k, none⟩) 1 (c - k) [cc] _ HD.out HSd.out.2.1 (by omega) (by omega) hne.out (by omega)).mono ?_; rintro e w3 ⟨rfl, hr3, hg3⟩))
        have HS5 := Lib.hid (HSd.out.enc HSK.out hd hdb hg3 hr3)
        have A5 : Hid (Alk f (Hx.row g 19 [cc] 1)) := HG.out.row 19 [cc] 1 (by omega) (by omega)
        have D5 : Hid (∀ i x, (Hx.encode [cc])[i]? = some x → Hx.row g 19 [cc] 1 (19 + i) = .int .u8 (x.toNat : Int)) := fun i x h => row1_at g cc i x h
        clear hr3 hg3 HSd HD hne c33 HSx HG
        generalize Hx.row g 19 [cc] 1 = g5 at *
        have c0 : w3.cell? ⟨d, 0, none⟩ = some (.iface T (.pointer (some ⟨b, 0, none⟩))) := by rw [HS5.out.cell 0 (by omega), A5.out 0 (by omega), HF0.out]
        have c33 : w3.cell? ⟨d, 33, none⟩ = some (.int .i64 7) := by rw [HS5.out.cell 33 (by omega), A5.out 33 (by omega), HF33.out]; rfl
        have c21 : w3.cell? ⟨d, 21, none⟩ = some (g5 21) := HS5.out.cell 21 (by omega)
        have z21 : w3.frozen? ⟨d, 21, none⟩ = false := HS5.out.fz _
        have c22 : w3.cell? ⟨d, 22, none⟩ = some (g5 22) := HS5.out.cell 22 (by omega)
        have z22 : w3.frozen? ⟨d, 22, none⟩ = false := HS5.out.fz _
        have HS6 := Lib.hid (((HS5.out.set HSK.out hd hdb 21 (.int .u8 32)).set HSK.out hd hdb 22 (.int .u8 32)).drew HSK.out)
        have O6 : Hid (∀ i x, (Hx.encode [cc] ++ [32, 32])[i]? = some x → (upd (upd g5 21 (.int .u8 32)) 22 (.int .u8 32)) (19 + i) = .int .u8 (x.toNat : Int)) := by
          refine byte_cells _ cc [32, 32] (fun i x hi => ?_) (fun i x hi => ?_)
          · match i with
            | 0 => simp at hi; subst hi; simp [upd]
            | 1 => simp at hi; subst hi; simp [upd]
            | i + 2 => simp at hi
          · have hi2 := (List.getElem?_eq_some_iff.1 hi).1
            rw [Hx.encode_length] at hi2
            simp at hi2
            simp only [upd]
            rw [if_neg (by omega), if_neg (by omega)]
            exact D5.out i x hi
        go_wp2_with fail
        go_region_with (go_at_fn F; (refine (HS6.out.write HSK.out hdb 19 4 14 (Hx.encode [cc] ++ [32, 32]) (by rw [List.length_append, Hx.encode_length]; rfl) O6.out (by omega) (by omega)).mono ?_; rintro e w4 ⟨rfl, hs7⟩))
        have HS7 := Lib.hid hs7
        have A7 : Hid (Alk f (upd (upd g5 21 (.int .u8 32)) 22 (.int .u8 32))) := ((A5.out.upd 21 (by omega) (by omega) (.int .u8 32)).upd 22 (by omega) (by omega) (.int .u8 32))
        clear hs7 HS6 HS5 O6 D5 c0 c33 c21 z21 c22 z22
        generalize upd (upd g5 21 (.int .u8 32)) 22 (.int .u8 32) = g7 at *
        have c33 : w4.cell? ⟨d, 33, none⟩ = some (.int .i64 7) := by rw [HS7.out.cell 33 (by omega), A7.out 33 (by omega), HF33.out]; rfl
        have c34 : w4.cell? ⟨d, 34, none⟩ = some (.int .u64 (N : Int)) := by rw [HS7.out.cell 34 (by omega), A7.out 34 (by omega), HF34.out]
        have z33 : w4.frozen? ⟨d, 33, none⟩ = false := HS7.out.fz _
        have z34 : w4.frozen? ⟨d, 34, none⟩ = false := HS7.out.fz _
        have cd : w4.cell? ⟨ba, oa + k, none⟩ = some (.int .u8 (cc.toNat : Int)) := (HS7.out.2.2.cell (p := ⟨ba, oa + k, none⟩) hba).trans HCell.out
        have cr : w4.cell? ⟨d, 8, none⟩ = some (g7 (8)) := HS7.out.cell _ (by omega)
        have zr : w4.frozen? ⟨d, 8, none⟩ = false := HS7.out.fz _
        have k33 : ∀ v, (w4.setCell ⟨d, 8, none⟩ v).cell? ⟨d, 33, none⟩ = some (.int .i64 7) := fun v => by rw [World.cell?_setCell_other _ _ _ _ (by simp; try omega)]; exact c33
        go_wp2_with fail
        go_region_held3 (fun w' => w'.cell? ⟨d, 33, none⟩ = some (.int .i64 7) ∧ w'.cell? ⟨ba, oa + k, none⟩ = some (.int .u8 (cc.toNat : Int))) (go_keep)
          (first | (go_at_call 66; refine (hexToChar cc _).mono ?_; rintro e w' ⟨rfl, rfl⟩))
        have EX : Hid (Dm.outL (a ++ [cc]) = x ++ (Hx.encode [cc] ++ [32, 32])) := by
          rw [Hid, Dm.step, ← HX.out, HU.out]
          simp [Dm.tail1]
        have HFin : Hid (∃ f', Stt S w0 d (Dm.outL (acc ++ l.take (k + 1))) f' ((((w4.setCell ⟨d, 8, none⟩ (.int .u8 ((Dm.toCh cc).toNat : Int))).setCell ⟨d, 33, none⟩ (.int .i64 8)).setCell ⟨d, 34, none⟩ (.int .u64 ((N : Int) + 1))).drew) ∧ Fld T b (acc ++ l.take (k + 1)) f') := by
          rw [Hid, HA.out, EX.out]
          exact ⟨_, (((HS7.out.set HSK.out hd hdb (8) (.int .u8 ((Dm.toCh cc).toNat : Int))).set HSK.out hd hdb 33 (.int .i64 8)).set HSK.out hd hdb 34 (.int .u64 ((N : Int) + 1))).drew HSK.out, HFl.out.next cc A7.out HU.out (by omega) (by omega) _ _ (by omega) (by rw [HN.out])⟩
        clear EX
        go_wp2_with fail
        go_roundw
        case rel => exact ⟨k + 1, by omega, by go_num, by go_num, rfl, HFin⟩
        case measure => simp [RowKit.intOf]; omega
      by_cases h15 : u = 15
      · subst h15
        obtain ⟨w2, hw2⟩ : ∃ w2, wr = w2 := ⟨_, rfl⟩
        subst hw2
        obtain ⟨g, hg⟩ : ∃ g, g = f := ⟨_, rfl⟩
        have HG : Hid (Alk f g) := by rw [hg]; exact Alk.refl f
        obtain ⟨x, hxe⟩ : ∃ x, x = Dm.outL a := ⟨_, rfl⟩
        have HSx : Hid (Stt S w0 d x g wr) := by rw [hg, hxe]; exact HSt.out
        have hxl : x.length ≤ 33 * N + 10 := by rw [hxe]; omega
        have HX : Hid (x = Dm.outL a ++ (if a.length % 16 = 0 then Dm.adr a.length ++ [32, 32] else [])) := by rw [Hid, if_neg (by rw [HU.out]; omega), hxe]; simp
        clear hg hxe
        have c33 : wr.cell? ⟨d, 33, none⟩ = some (.int .i64 15) := by rw [HSx.out.cell 33 (by omega), HG.out 33 (by omega), HF33.out]; rfl
        have HD : Hid (RB wr.drew (some ⟨ba, oa + k, none⟩) 1 [cc]) := ⟨rfl, fun _ => ⟨ba, oa + k, rfl, Nat.lt_of_lt_of_le hba HSx.out.size, fun i x hi => by
          cases i with
          | zero => simp at hi; subst hi; simpa using (HSx.out.2.2.drew.cell (p := ⟨ba, oa + k, none⟩) hba).trans HCell.out
          | succ i => simp at hi⟩⟩
        have hne : Hid (0 < 1 → ∀ bb oo, some (⟨ba, oa + k, none⟩ : Addr) = some ⟨bb, oo, none⟩ → d ≠ bb) := fun _ bb oo e => by
          injection e with e
          injection e with e1
          omega
        have HSd := Lib.hid (HSx.out.drew HSK.out)
        go_wp2_with fail
        go_region_with (go_at_call 31; (refine (hexEncode 66 d 19 14 14 36 g (some ⟨ba, oa + k, none⟩) 1 (c - k) [cc] _ HD.out HSd.out.2.1 (by omega) (by omega) hne.out (by omega)).mono ?_; rintro e w3 ⟨rfl, hr3, hg3⟩))
        have HS5 := Lib.hid (HSd.out.enc HSK.out hd hdb hg3 hr3)
        have A5 : Hid (Alk f (Hx.row g 19 [cc] 1)) := HG.out.row 19 [cc] 1 (by omega) (by omega)
        have D5 : Hid (∀ i x, (Hx.encode [cc])[i]? = some x → Hx.row g 19 [cc] 1 (19 + i) = .int .u8 (x.toNat : Int)) := fun i x h => row1_at g cc i x h
        clear hr3 hg3 HSd HD hne c33 HSx HG
        generalize Hx.row g 19 [cc] 1 = g5 at *
        have c0 : w3.cell? ⟨d, 0, none⟩ = some (.iface T (.pointer (some ⟨b, 0, none⟩))) := by rw [HS5.out.cell 0 (by omega), A5.out 0 (by omega), HF0.out]
        have c33 : w3.cell? ⟨d, 33, none⟩ = some (.int .i64 15) := by rw [HS5.out.cell 33 (by omega), A5.out 33 (by omega), HF33.out]; rfl
        have c21 : w3.cell? ⟨d, 21, none⟩ = some (g5 21) := HS5.out.cell 21 (by omega)
        have z21 : w3.frozen? ⟨d, 21, none⟩ = false := HS5.out.fz _
        have c22 : w3.cell? ⟨d, 22, none⟩ = some (g5 22) := HS5.out.cell 22 (by omega)
        have z22 : w3.frozen? ⟨d, 22, none⟩ = false := HS5.out.fz _
        have c23 : w3.cell? ⟨d, 23, none⟩ = some (g5 23) := HS5.out.cell 23 (by omega)
        have z23 : w3.frozen? ⟨d, 23, none⟩ = false := HS5.out.fz _
        have HS6 := Lib.hid ((((HS5.out.set HSK.out hd hdb 21 (.int .u8 32)).set HSK.out hd hdb 22 (.int .u8 32)).set HSK.out hd hdb 23 (.int .u8 124)).drew HSK.out)
        have O6 : Hid (∀ i x, (Hx.encode [cc] ++ [32, 32, 124])[i]? = some x → (upd (upd (upd g5 21 (.int .u8 32)) 22 (.int .u8 32)) 23 (.int .u8 124)) (19 + i) = .int .u8 (x.toNat : Int)) := by
          refine byte_cells _ cc [32, 32, 124] (fun i x hi => ?_) (fun i x hi => ?_)
          · match i with
            | 0 => simp at hi; subst hi; simp [upd]
            | 1 => simp at hi; subst hi; simp [upd]
            | 2 => simp at hi; subst hi; simp [upd]
            | i + 3 => simp at hi
          · have hi2 := (List.getElem?_eq_some_iff.1 hi).1
            rw [Hx.encode_length] at hi2
            simp at hi2
            simp only [upd]
            rw [if_neg (by omega), if_neg (by omega), if_neg (by omega)]
            exact D5.out i x hi
        go_wp2_with fail
        go_region_with (go_at_fn F; (refine (HS6.out.write HSK.out hdb 19 5 14 (Hx.encode [cc] ++ [32, 32, 124]) (by rw [List.length_append, Hx.encode_length]; rfl) O6.out (by omega) (by omega)).mono ?_; rintro e w4 ⟨rfl, hs7⟩))
        have HS7 := Lib.hid hs7
        have A7 : Hid (Alk f (upd (upd (upd g5 21 (.int .u8 32)) 22 (.int .u8 32)) 23 (.int .u8 124))) := (((A5.out.upd 21 (by omega) (by omega) (.int .u8 32)).upd 22 (by omega) (by omega) (.int .u8 32)).upd 23 (by omega) (by omega) (.int .u8 124))
        clear hs7 HS6 HS5 O6 D5 c0 c33 c21 z21 c22 z22 c23 z23
        generalize upd (upd (upd g5 21 (.int .u8 32)) 22 (.int .u8 32)) 23 (.int .u8 124) = g7 at *
        have c33 : w4.cell? ⟨d, 33, none⟩ = some (.int .i64 15) := by rw [HS7.out.cell 33 (by omega), A7.out 33 (by omega), HF33.out]; rfl
        have c34 : w4.cell? ⟨d, 34, none⟩ = some (.int .u64 (N : Int)) := by rw [HS7.out.cell 34 (by omega), A7.out 34 (by omega), HF34.out]
        have z33 : w4.frozen? ⟨d, 33, none⟩ = false := HS7.out.fz _
        have z34 : w4.frozen? ⟨d, 34, none⟩ = false := HS7.out.fz _
        have cd : w4.cell? ⟨ba, oa + k, none⟩ = some (.int .u8 (cc.toNat : Int)) := (HS7.out.2.2.cell (p := ⟨ba, oa + k, none⟩) hba).trans HCell.out
        have cr : w4.cell? ⟨d, 16, none⟩ = some (g7 (16)) := HS7.out.cell _ (by omega)
        have zr : w4.frozen? ⟨d, 16, none⟩ = false := HS7.out.fz _
        have k33 : ∀ v, (w4.setCell ⟨d, 16, none⟩ v).cell? ⟨d, 33, none⟩ = some (.int .i64 15) := fun v => by rw [World.cell?_setCell_other _ _ _ _ (by simp; try omega)]; exact c33
        go_wp2_with fail
        go_region_held3 (fun w' => w'.cell? ⟨d, 33, none⟩ = some (.int .i64 15) ∧ w'.cell? ⟨ba, oa + k, none⟩ = some (.int .u8 (cc.toNat : Int))) (go_keep)
          (first | (go_at_call 66; refine (hexToChar cc _).mono ?_; rintro e w' ⟨rfl, rfl⟩))
        have c17 : w4.cell? ⟨d, 17, none⟩ = some (g7 17) := HS7.out.cell 17 (by omega)
        have c18 : w4.cell? ⟨d, 18, none⟩ = some (g7 18) := HS7.out.cell 18 (by omega)
        have c0 : w4.cell? ⟨d, 0, none⟩ = some (.iface T (.pointer (some ⟨b, 0, none⟩))) := by rw [HS7.out.cell 0 (by omega), A7.out 0 (by omega), HF0.out]
        have z17 : w4.frozen? ⟨d, 17, none⟩ = false := HS7.out.fz _
        have z18 : w4.frozen? ⟨d, 18, none⟩ = false := HS7.out.fz _
        have HS8 : Hid (Stt S w0 d (x ++ (Hx.encode [cc] ++ [32, 32, 124])) (end15 g7 cc ((N : Int) + 1)) _) := (((((((HS7.out.set HSK.out hd hdb (16) (.int .u8 ((Dm.toCh cc).toNat : Int))).set HSK.out hd hdb 33 (.int .i64 16)).set HSK.out hd hdb 34 (.int .u64 ((N : Int) + 1))).set HSK.out hd hdb 17 (.int .u8 124)).set HSK.out hd hdb 18 (.int .u8 10)).drew HSK.out).drew HSK.out)
        have O8 : Hid _ := right15 cc HFl.out A7.out HU.out ((N : Int) + 1)
        have hl8 : ((Dm.cur a ++ [cc]).map Dm.toCh ++ [124, 10]).length = 18 := by simp [Dm.cur_len, HU.out]
        have HL8 := Lib.hid hl8
        have hx8 : (x ++ (Hx.encode [cc] ++ [32, 32, 124])).length + 18 ≤ 140737488355328 := by simp [Hx.encode_length]; omega
        clear hl8
        go_wp2_with fail
        go_region_with (go_at_fn F; (refine (HS8.out.write HSK.out hdb 1 18 18 ((Dm.cur a ++ [cc]).map Dm.toCh ++ [124, 10]) HL8.out O8.out (by omega) hx8).mono ?_; rintro e w5 ⟨rfl, hs9⟩))
        have HS9 := Lib.hid hs9
        clear hs9 HS8 O8 hx8 c33 c34 z33 z34 cd cr zr k33 c17 c18 c0 z17 z18
        have c33 : w5.cell? ⟨d, 33, none⟩ = some (.int .i64 16) := by rw [HS9.out.cell 33 (by omega)]; rfl
        have z33 : w5.frozen? ⟨d, 33, none⟩ = false := HS9.out.fz _
        have EX : Hid (Dm.outL (a ++ [cc]) = x ++ (Hx.encode [cc] ++ [32, 32, 124]) ++ ((Dm.cur a ++ [cc]).map Dm.toCh ++ [124, 10])) := by
          rw [Hid, Dm.step, ← HX.out, HU.out]
          simp [Dm.tail1]
        have HFin : Hid (∃ f', Stt S w0 d (Dm.outL (acc ++ l.take (k + 1))) f' (w5.setCell ⟨d, 33, none⟩ (.int .i64 0)) ∧ Fld T b (acc ++ l.take (k + 1)) f') := by
          rw [Hid, HA.out, EX.out]
          exact ⟨_, HS9.out.set HSK.out hd hdb 33 (.int .i64 0), HFl.out.next15 cc A7.out HU.out _ (by rw [HN.out])⟩
        go_wp2_with fail
        go_roundw
        case rel => exact ⟨k + 1, by omega, by go_num, by go_num, rfl, HFin⟩
        case measure => simp [RowKit.intOf]; omega
      · -- elsewhere
        obtain ⟨w2, hw2⟩ : ∃ w2, wr = w2 := ⟨_, rfl⟩
        subst hw2
        obtain ⟨g, hg⟩ : ∃ g, g = f := ⟨_, rfl⟩
        have HG : Hid (Alk f g) := by rw [hg]; exact Alk.refl f
        obtain ⟨x, hxe⟩ : ∃ x, x = Dm.outL a := ⟨_, rfl⟩
        have HSx : Hid (Stt S w0 d x g wr) := by rw [hg, hxe]; exact HSt.out
        have hxl : x.length ≤ 33 * N + 10 := by rw [hxe]; omega
        have HX : Hid (x = Dm.outL a ++ (if a.length % 16 = 0 then Dm.adr a.length ++ [32, 32] else [])) := by rw [Hid, if_neg (by rw [HU.out]; omega), hxe]; simp
        clear hg hxe
        have c33 : wr.cell? ⟨d, 33, none⟩ = some (.int .i64 (u : Int)) := by rw [HSx.out.cell 33 (by omega), HG.out 33 (by omega), HF33.out]
        have HD : Hid (RB wr.drew (some ⟨ba, oa + k, none⟩) 1 [cc]) := ⟨rfl, fun _ => ⟨ba, oa + k, rfl, Nat.lt_of_lt_of_le hba HSx.out.size, fun i x hi => by
          cases i with
          | zero => simp at hi; subst hi; simpa using (HSx.out.2.2.drew.cell (p := ⟨ba, oa + k, none⟩) hba).trans HCell.out
          | succ i => simp at hi⟩⟩
        have hne : Hid (0 < 1 → ∀ bb oo, some (⟨ba, oa + k, none⟩ : Addr) = some ⟨bb, oo, none⟩ → d ≠ bb) := fun _ bb oo e => by
          injection e with e
          injection e with e1
          omega
        have HSd := Lib.hid (HSx.out.drew HSK.out)
        go_wp2_with fail
        go_region_with (go_at_call 31; (refine (hexEncode 66 d 19 14 14 36 g (some ⟨ba, oa + k, none⟩) 1 (c - k) [cc] _ HD.out HSd.out.2.1 (by omega) (by omega) hne.out (by omega)).mono ?_; rintro e w3 ⟨rfl, hr3, hg3⟩))
        have HS5 := Lib.hid (HSd.out.enc HSK.out hd hdb hg3 hr3)
        have A5 : Hid (Alk f (Hx.row g 19 [cc] 1)) := HG.out.row 19 [cc] 1 (by omega) (by omega)
        have D5 : Hid (∀ i x, (Hx.encode [cc])[i]? = some x → Hx.row g 19 [cc] 1 (19 + i) = .int .u8 (x.toNat : Int)) := fun i x h => row1_at g cc i x h
        clear hr3 hg3 HSd HD hne c33 HSx HG
        generalize Hx.row g 19 [cc] 1 = g5 at *
        have c0 : w3.cell? ⟨d, 0, none⟩ = some (.iface T (.pointer (some ⟨b, 0, none⟩))) := by rw [HS5.out.cell 0 (by omega), A5.out 0 (by omega), HF0.out]
        have c33 : w3.cell? ⟨d, 33, none⟩ = some (.int .i64 (u : Int)) := by rw [HS5.out.cell 33 (by omega), A5.out 33 (by omega), HF33.out]
        have c21 : w3.cell? ⟨d, 21, none⟩ = some (g5 21) := HS5.out.cell 21 (by omega)
        have z21 : w3.frozen? ⟨d, 21, none⟩ = false := HS5.out.fz _
        have hb7 : ((u : Int) == 7) = false := by simp; omega
        have hb15 : ((u : Int) == 15) = false := by simp; omega
        have HS6 := Lib.hid ((HS5.out.set HSK.out hd hdb 21 (.int .u8 32)).drew HSK.out)
        have O6 : Hid (∀ i x, (Hx.encode [cc] ++ [32])[i]? = some x → (upd g5 21 (.int .u8 32)) (19 + i) = .int .u8 (x.toNat : Int)) := by
          refine byte_cells _ cc [32] (fun i x hi => ?_) (fun i x hi => ?_)
          · match i with
            | 0 => simp at hi; subst hi; simp [upd]
            | i + 1 => simp at hi
          · have hi2 := (List.getElem?_eq_some_iff.1 hi).1
            rw [Hx.encode_length] at hi2
            simp at hi2
            simp only [upd]
            rw [if_neg (by omega)]
            exact D5.out i x hi
        go_wp2_with fail
        go_region_with (go_at_fn F; (refine (HS6.out.write HSK.out hdb 19 3 14 (Hx.encode [cc] ++ [32]) (by rw [List.length_append, Hx.encode_length]; rfl) O6.out (by omega) (by omega)).mono ?_; rintro e w4 ⟨rfl, hs7⟩))
        have HS7 := Lib.hid hs7
        have A7 : Hid (Alk f (upd g5 21 (.int .u8 32))) := (A5.out.upd 21 (by omega) (by omega) (.int .u8 32))
        clear hs7 HS6 HS5 O6 D5 c0 c33 c21 z21 hb7 hb15
        generalize upd g5 21 (.int .u8 32) = g7 at *
        have c33 : w4.cell? ⟨d, 33, none⟩ = some (.int .i64 (u : Int)) := by rw [HS7.out.cell 33 (by omega), A7.out 33 (by omega), HF33.out]
        have c34 : w4.cell? ⟨d, 34, none⟩ = some (.int .u64 (N : Int)) := by rw [HS7.out.cell 34 (by omega), A7.out 34 (by omega), HF34.out]
        have z33 : w4.frozen? ⟨d, 33, none⟩ = false := HS7.out.fz _
        have z34 : w4.frozen? ⟨d, 34, none⟩ = false := HS7.out.fz _
        have cd : w4.cell? ⟨ba, oa + k, none⟩ = some (.int .u8 (cc.toNat : Int)) := (HS7.out.2.2.cell (p := ⟨ba, oa + k, none⟩) hba).trans HCell.out
        have cr : w4.cell? ⟨d, 1 + u, none⟩ = some (g7 (1 + u)) := HS7.out.cell _ (by omega)
        have zr : w4.frozen? ⟨d, 1 + u, none⟩ = false := HS7.out.fz _
        have k33 : ∀ v, (w4.setCell ⟨d, 1 + u, none⟩ v).cell? ⟨d, 33, none⟩ = some (.int .i64 (u : Int)) := fun v => by rw [World.cell?_setCell_other _ _ _ _ (by simp; try omega)]; exact c33
        have hp2 : IntKind.i64.wrap ((u : Int) + 1) = (u : Int) + 1 := IntWalk.i64_in _ (by omega)
        have hb16 : ((u : Int) + 1 == 16) = false := by simp; omega
        have hu0 : (0 : Int) ≤ (u : Int) := by omega
        have hu18 : (u : Int) < 18 := by omega
        go_wp2_with fail
        go_region_held3 (fun w' => w'.cell? ⟨d, 33, none⟩ = some (.int .i64 (u : Int)) ∧ w'.cell? ⟨ba, oa + k, none⟩ = some (.int .u8 (cc.toNat : Int))) (go_keep)
          (first | (go_at_call 66; refine (hexToChar cc _).mono ?_; rintro e w' ⟨rfl, rfl⟩))
        have EX : Hid (Dm.outL (a ++ [cc]) = x ++ (Hx.encode [cc] ++ [32])) := by
          rw [Hid, Dm.step, ← HX.out, HU.out]
          simp [Dm.tail1, h7, h15]
        have HFin : Hid (∃ f', Stt S w0 d (Dm.outL (acc ++ l.take (k + 1))) f' ((((w4.setCell ⟨d, 1 + u, none⟩ (.int .u8 ((Dm.toCh cc).toNat : Int))).setCell ⟨d, 33, none⟩ (.int .i64 ((u : Int) + 1))).setCell ⟨d, 34, none⟩ (.int .u64 ((N : Int) + 1))).drew) ∧ Fld T b (acc ++ l.take (k + 1)) f') := by
          rw [Hid, HA.out, EX.out]
          exact ⟨_, (((HS7.out.set HSK.out hd hdb (1 + u) (.int .u8 ((Dm.toCh cc).toNat : Int))).set HSK.out hd hdb 33 (.int .i64 ((u : Int) + 1))).set HSK.out hd hdb 34 (.int .u64 ((N : Int) + 1))).drew HSK.out, HFl.out.next cc A7.out HU.out (by omega) (by omega) _ _ (by omega) (by rw [HN.out])⟩
        clear EX
        go_wp2_with fail
        go_roundw
        case rel => exact ⟨k + 1, by omega, by go_num, by go_num, rfl, HFin⟩
        case measure => simp [RowKit.intOf]; omega
    · have hk2 : k = n := by omega
      subst hk2
      have e : l.take k = l := by rw [← HL.out, List.take_length]
      rw [e] at hE
      clear e
      go_wp2_with fail
      go_ret2
      exact ⟨rfl, hE.out⟩

end Go.Proofs.Ytkhoifaakidfcaa
