/-
  Contracts: encoding/hex's dumper: Close over a sink; Dumper.
-/
import Derived.Test.YtkhoifaakidfcaaStt
import Derived.Deep.DrawnRows
import Derived.Shelf.Abstract
namespace Go.Proofs.Ytkhoifaakidfcaa
open Go.RowKit Go.Lib
set_option linter.unusedVariables false
attribute [local go_sem ↓] Go.wp_at_zero Go.wp_at_succ

/-- While the line is filled up: the buffer holds four blanks and a bar. -/
def Fil (T b : Nat) (acc : List UInt8) (f : Nat → Value) : Prop :=
  f 0 = .iface T (.pointer (some ⟨b, 0, none⟩)) ∧ f 19 = .int .u8 32 ∧ f 20 = .int .u8 32 ∧ f 21 = .int .u8 32 ∧ f 22 = .int .u8 32 ∧ f 23 = .int .u8 124 ∧
    ∀ i c, (Dm.cur acc)[i]? = some c → f (1 + i) = .int .u8 ((Dm.toCh c).toNat : Int)

theorem pc_cells {T b : Nat} {acc : List UInt8} {f : Nat → Value} (h : Fil T b acc f) (v : Nat) : ∀ i x, (Dm.pc v)[i]? = some x → f (19 + i) = .int .u8 (x.toNat : Int) := by
  obtain ⟨_, h0, h1, h2, h3, h4, _⟩ := h
  intro i x hi
  unfold Dm.pc Dm.tail1 at hi
  split at hi
  · match i with
    | 0 => simp at hi; subst hi; exact h0
    | 1 => simp at hi; subst hi; exact h1
    | 2 => simp at hi; subst hi; exact h2
    | 3 => simp at hi; subst hi; exact h3
    | i + 4 => simp at hi
  · split at hi
    · match i with
      | 0 => simp at hi; subst hi; exact h0
      | 1 => simp at hi; subst hi; exact h1
      | 2 => simp at hi; subst hi; exact h2
      | 3 => simp at hi; subst hi; exact h3
      | 4 => simp at hi; subst hi; exact h4
      | i + 5 => simp at hi
    · match i with
      | 0 => simp at hi; subst hi; exact h0
      | 1 => simp at hi; subst hi; exact h1
      | 2 => simp at hi; subst hi; exact h2
      | i + 3 => simp at hi

theorem map_cells' {f : Nat → Value} {l : List UInt8} (h : ∀ i c, l[i]? = some c → f (1 + i) = .int .u8 ((Dm.toCh c).toNat : Int)) {n : Nat} (hl : l.length = n) (h1 : f (1 + n) = .int .u8 124) (h2 : f (2 + n) = .int .u8 10) :
    ∀ i x, (l.map Dm.toCh ++ [124, 10])[i]? = some x → f (1 + i) = .int .u8 (x.toNat : Int) := by
  intro i x hi
  rcases Nat.lt_or_ge i n with h3 | h3
  · rw [List.getElem?_append_left (by rw [List.length_map]; omega), List.getElem?_map] at hi
    cases hc : l[i]? with
    | none => rw [hc] at hi; cases hi
    | some c =>
      rw [hc] at hi
      simp at hi
      subst hi
      exact h i c hc
  · rw [List.getElem?_append_right (by rw [List.length_map]; omega), List.length_map, hl] at hi
    obtain ⟨m, rfl⟩ : ∃ m, i = n + m := ⟨i - n, by omega⟩
    rw [Nat.add_sub_cancel_left] at hi
    match m with
    | 0 => simp at hi; subst hi; exact h1
    | 1 => simp at hi; subst hi; rw [show 1 + (n + 1) = 2 + n by omega]; exact h2
    | m + 2 => simp at hi

theorem run_to14 (d : Nat) (k : Int) (h0 : 0 ≤ k) (h1 : k ≤ 14) (w : World) :
    (Instr.sliceAt 64 (.pointer (some ⟨d, 19, none⟩)) none (some (.int .i64 k)) none).run Try.prog w = .ok (.slice (some ⟨d, 19, none⟩) k.toNat 14) w := by
  have ea : Try.prog.arrayLen 64 = 14 := by kernel_rfl
  have es : (sizeOf (Try.prog.elem 64)).run Try.prog w = .ok 1 w := by kernel_rfl
  rw [run_sliceAt_array_h (P := Try.prog) w 64 ⟨d, 19, none⟩ (by kernel_rfl) .i64 k h0 (by rw [ea]; omega), es, ea]
  simp [slicedAt, Addr.add]

theorem run_to18 (d : Nat) (k : Int) (h0 : 0 ≤ k) (h1 : k ≤ 18) (w : World) :
    (Instr.sliceAt 63 (.pointer (some ⟨d, 1, none⟩)) none (some (.int .i64 k)) none).run Try.prog w = .ok (.slice (some ⟨d, 1, none⟩) k.toNat 18) w := by
  have ea : Try.prog.arrayLen 63 = 18 := by kernel_rfl
  have es : (sizeOf (Try.prog.elem 63)).run Try.prog w = .ok 1 w := by kernel_rfl
  rw [run_sliceAt_array_h (P := Try.prog) w 63 ⟨d, 1, none⟩ (by kernel_rfl) .i64 k h0 (by rw [ea]; omega), es, ea]
  simp [slicedAt, Addr.add]

set_option maxHeartbeats 4000000 in
set_option maxRecDepth 100000 in
theorem dmpClose (T F b d : Nat) (w0 : World) (S : List UInt8 → World → Prop) (hS : IsSink T F b w0.heap.size S) (hd : w0.heap.size ≤ d) (hdb : d ≠ b)
    (acc : List UInt8) (w : World) (f00 : Nat → Value) (hs : Stt S w0 d (Dm.outL acc) f00 w) (he : Fld T b acc f00) (hbig : 33 * acc.length + 200 ≤ 140737488355328) :
    Calls Try.prog 63 #[.pointer (some ⟨d, 0, none⟩)] w fun e w' => e = .returned .nilIface ∧ S (Dm.dumpL acc) w' ∧ Below w0.heap.size w0 w' := by
  have HM := hS.meth
  have HEn := hS.ent
  have HSK := Lib.hid hS
  have HSt0 := Lib.hid hs
  have HF0 := Lib.hid he
  obtain ⟨u, hu⟩ : ∃ u, acc.length % 16 = u := ⟨_, rfl⟩
  have HU := Lib.hid hu
  have hu16 : u < 16 := by omega
  have c35 : w.cell? ⟨d, 35, none⟩ = some (.bool false) := by rw [hs.cell 35 (by omega), he.2.2.2.1]
  have c33 : w.cell? ⟨d, 33, none⟩ = some (.int .i64 (u : Int)) := by rw [hs.cell 33 (by omega), he.2.1, hu]
  have z35 : w.frozen? ⟨d, 35, none⟩ = false := hs.fz _
  have HC0 := Lib.hid he.1
  have HR0 := Lib.hid he.2.2.2.2
  have hx : (Dm.outL acc).length ≤ 33 * acc.length := Dm.outL_len acc
  clear hs he hS hu
  by_cases h0 : u = 0
  · subst h0
    have HD := Lib.hid (Dm.dump_shut acc HU.out)
    have HS1 := Lib.hid (HSt0.out.set HSK.out hd hdb 35 (.bool true))
    go_enter Try.func63, Try.ntmps63
    go_wp2_with fail
    go_ret
    exact ⟨rfl, by rw [HD.out]; exact HS1.out.1, HS1.out.2.2⟩
  · have hb0 : ((u : Int) == 0) = false := by simp; omega
    have HD := Lib.hid (Dm.dump_open acc (by rw [HU.out]; omega))
    have c19 : w.cell? ⟨d, 19, none⟩ = some (f00 19) := HSt0.out.cell 19 (by omega)
    have c20 : w.cell? ⟨d, 20, none⟩ = some (f00 20) := HSt0.out.cell 20 (by omega)
    have c21 : w.cell? ⟨d, 21, none⟩ = some (f00 21) := HSt0.out.cell 21 (by omega)
    have c22 : w.cell? ⟨d, 22, none⟩ = some (f00 22) := HSt0.out.cell 22 (by omega)
    have c23 : w.cell? ⟨d, 23, none⟩ = some (f00 23) := HSt0.out.cell 23 (by omega)
    have z19 : w.frozen? ⟨d, 19, none⟩ = false := HSt0.out.fz _
    have z20 : w.frozen? ⟨d, 20, none⟩ = false := HSt0.out.fz _
    have z21 : w.frozen? ⟨d, 21, none⟩ = false := HSt0.out.fz _
    have z22 : w.frozen? ⟨d, 22, none⟩ = false := HSt0.out.fz _
    have z23 : w.frozen? ⟨d, 23, none⟩ = false := HSt0.out.fz _
    have HS1 := Lib.hid ((((((HSt0.out.set HSK.out hd hdb 35 (.bool true)).set HSK.out hd hdb 19 (.int .u8 32)).set HSK.out hd hdb 20 (.int .u8 32)).set HSK.out hd hdb 21 (.int .u8 32)).set HSK.out hd hdb 22 (.int .u8 32)).set HSK.out hd hdb 23 (.int .u8 124))
    have HFi : Hid (Fil T b acc (upd (upd (upd (upd (upd (upd f00 35 (.bool true)) 19 (.int .u8 32)) 20 (.int .u8 32)) 21 (.int .u8 32)) 22 (.int .u8 32)) 23 (.int .u8 124))) := by
      refine ⟨by simp [upd, HC0.out], by simp [upd], by simp [upd], by simp [upd], by simp [upd], by simp [upd], fun i c hi => ?_⟩
      have hi2 := (List.getElem?_eq_some_iff.1 hi).1
      rw [Dm.cur_len] at hi2
      simp only [upd]
      rw [if_neg (by omega), if_neg (by omega), if_neg (by omega), if_neg (by omega), if_neg (by omega), if_neg (by omega)]
      exact HR0.out i c hi
    have H33 : Hid (upd (upd (upd (upd (upd (upd f00 35 (.bool true)) 19 (.int .u8 32)) 20 (.int .u8 32)) 21 (.int .u8 32)) 22 (.int .u8 32)) 23 (.int .u8 124) 33 = .int .i64 (u : Int)) := by simp [upd, Hid, HF0.out.2.1, HU.out]
    generalize upd (upd (upd (upd (upd (upd f00 35 (.bool true)) 19 (.int .u8 32)) 20 (.int .u8 32)) 21 (.int .u8 32)) 22 (.int .u8 32)) 23 (.int .u8 124) = f1 at *
    go_enter Try.func63, Try.ntmps63
    go_wp2_with fail
    clear c33 c35 z35 c19 c20 c21 c22 c23 z19 z20 z21 z22 z23
    go_loopw [2] (fun ve wr => ∃ v : Nat, ve = .nilIface ∧ u ≤ v ∧ v ≤ 16 ∧ Hid (∃ f, Stt S w0 d (Dm.outL acc ++ Dm.padC u v) f wr ∧ Fil T b acc f ∧ f 33 = .int .i64 (v : Int))) (fun _ wr => match wr.cell? ⟨d, 33, none⟩ with | some (.int _ x) => 16 - x.toNat | _ => 0)
    case atStart => exact ⟨u, rfl, Nat.le_refl _, by omega, ⟨f1, by rw [Dm.padC_self, List.append_nil]; exact HS1.out, HFi.out, H33.out⟩⟩
    case round =>
      obtain ⟨v, rfl, huv, hv16, hE⟩ := hrel
      obtain ⟨f, hst, hfi, hf33⟩ := hE.out
      have HSt := Lib.hid hst
      have HFil := Lib.hid hfi
      have c0 : wr.cell? ⟨d, 0, none⟩ = some (.iface T (.pointer (some ⟨b, 0, none⟩))) := by rw [hst.cell 0 (by omega), hfi.1]
      have c33 : wr.cell? ⟨d, 33, none⟩ = some (.int .i64 (v : Int)) := by rw [hst.cell 33 (by omega), hf33]
      have z33 : wr.frozen? ⟨d, 33, none⟩ = false := hst.fz _
      have H33 := Lib.hid hf33
      clear hst hfi hf33 hE
      have hpl : (Dm.padC u v).length ≤ 80 := by have := Dm.padC_len u v; omega
      by_cases hlt : v < 16
      · by_cases h7 : v = 7
        · subst h7
          have c33' : wr.cell? ⟨d, 33, none⟩ = some (.int .i64 7) := c33
          clear c33
          have c33 := c33'
          clear c33'
          have HSd := Lib.hid (HSt.out.drew HSK.out)
          go_wp2_with fail
          go_region_with (go_at_fn F; (refine (HSd.out.write HSK.out hdb 19 4 14 (Dm.pc 7) (by rfl) (pc_cells HFil.out 7) (by omega) (by rw [List.length_append]; omega)).mono ?_; rintro e w2 ⟨rfl, hs2⟩))
          have c33b : w2.cell? ⟨d, 33, none⟩ = some (.int .i64 7) := by rw [hs2.cell 33 (by omega), H33.out]; rfl
          have z33b : w2.frozen? ⟨d, 33, none⟩ = false := hs2.fz _
          have HS3 := Lib.hid (hs2.set HSK.out hd hdb 33 (.int .i64 8))
          have m1 : Hid ((w2.setCell ⟨d, 33, none⟩ (.int .i64 8)).cell? ⟨d, 33, none⟩ = some (.int .i64 8)) := by rw [Hid, HS3.out.cell 33 (by omega)]; simp [upd]
          have HFin : Hid (∃ f', Stt S w0 d (Dm.outL acc ++ Dm.padC u (7 + 1)) f' (w2.setCell ⟨d, 33, none⟩ (.int .i64 8)) ∧ Fil T b acc f' ∧ f' 33 = .int .i64 ((7 + 1 : Nat) : Int)) := by
            rw [Hid, Dm.padC_succ u 7 huv, ← List.append_assoc]
            refine ⟨_, HS3.out, ?_, by simp [upd]⟩
            obtain ⟨g0, g1, g2, g3, g4, g5, g6⟩ := HFil.out
            refine ⟨by simp [upd, g0], by simp [upd, g1], by simp [upd, g2], by simp [upd, g3], by simp [upd, g4], by simp [upd, g5], fun i c hi => ?_⟩
            have hi2 := (List.getElem?_eq_some_iff.1 hi).1
            rw [Dm.cur_len] at hi2
            simp only [upd]
            rw [if_neg (by omega)]
            exact g6 i c hi
          have C33 := Lib.hid c33
          clear hs2 HS3 HSd c33 c0 z33
          go_wp2_with fail
          go_roundw
          case rel => exact ⟨7 + 1, rfl, by omega, by omega, HFin⟩
          case measure => simp only [m1.out, C33.out]; omega
        by_cases h15 : v = 15
        · subst h15
          have c33' : wr.cell? ⟨d, 33, none⟩ = some (.int .i64 15) := c33
          clear c33
          have c33 := c33'
          clear c33'
          have HSd := Lib.hid (HSt.out.drew HSK.out)
          go_wp2_with fail
          go_region_with (go_at_fn F; (refine (HSd.out.write HSK.out hdb 19 5 14 (Dm.pc 15) (by rfl) (pc_cells HFil.out 15) (by omega) (by rw [List.length_append]; omega)).mono ?_; rintro e w2 ⟨rfl, hs2⟩))
          have c33b : w2.cell? ⟨d, 33, none⟩ = some (.int .i64 15) := by rw [hs2.cell 33 (by omega), H33.out]; rfl
          have z33b : w2.frozen? ⟨d, 33, none⟩ = false := hs2.fz _
          have HS3 := Lib.hid (hs2.set HSK.out hd hdb 33 (.int .i64 16))
          have m1 : Hid ((w2.setCell ⟨d, 33, none⟩ (.int .i64 16)).cell? ⟨d, 33, none⟩ = some (.int .i64 16)) := by rw [Hid, HS3.out.cell 33 (by omega)]; simp [upd]
          have HFin : Hid (∃ f', Stt S w0 d (Dm.outL acc ++ Dm.padC u (15 + 1)) f' (w2.setCell ⟨d, 33, none⟩ (.int .i64 16)) ∧ Fil T b acc f' ∧ f' 33 = .int .i64 ((15 + 1 : Nat) : Int)) := by
            rw [Hid, Dm.padC_succ u 15 huv, ← List.append_assoc]
            refine ⟨_, HS3.out, ?_, by simp [upd]⟩
            obtain ⟨g0, g1, g2, g3, g4, g5, g6⟩ := HFil.out
            refine ⟨by simp [upd, g0], by simp [upd, g1], by simp [upd, g2], by simp [upd, g3], by simp [upd, g4], by simp [upd, g5], fun i c hi => ?_⟩
            have hi2 := (List.getElem?_eq_some_iff.1 hi).1
            rw [Dm.cur_len] at hi2
            simp only [upd]
            rw [if_neg (by omega)]
            exact g6 i c hi
          have C33 := Lib.hid c33
          clear hs2 HS3 HSd c33 c0 z33
          go_wp2_with fail
          go_roundw
          case rel => exact ⟨15 + 1, rfl, by omega, by omega, HFin⟩
          case measure => simp only [m1.out, C33.out]; omega
        · -- elsewhere
          have hb7 : ((v : Int) == 7) = false := by simp; omega
          have hb15 : ((v : Int) == 15) = false := by simp; omega
          have hv0 : (v : Int) < 16 := by omega
          have HSd := Lib.hid (HSt.out.drew HSK.out)
          go_wp2_with fail
          go_region_with (go_at_fn F; (refine (HSd.out.write HSK.out hdb 19 3 14 (Dm.pc v) (by simp [Dm.pc, Dm.tail1, h7, h15]) (pc_cells HFil.out v) (by omega) (by rw [List.length_append]; omega)).mono ?_; rintro e w2 ⟨rfl, hs2⟩))
          have c33b : w2.cell? ⟨d, 33, none⟩ = some (.int .i64 (v : Int)) := by rw [hs2.cell 33 (by omega), H33.out]
          have z33b : w2.frozen? ⟨d, 33, none⟩ = false := hs2.fz _
          have HS3 := Lib.hid (hs2.set HSK.out hd hdb 33 (.int .i64 ((v : Int) + 1)))
          have m1 : Hid ((w2.setCell ⟨d, 33, none⟩ (.int .i64 ((v : Int) + 1))).cell? ⟨d, 33, none⟩ = some (.int .i64 ((v : Int) + 1))) := by rw [Hid, HS3.out.cell 33 (by omega)]; simp [upd]
          have HFin : Hid (∃ f', Stt S w0 d (Dm.outL acc ++ Dm.padC u (v + 1)) f' (w2.setCell ⟨d, 33, none⟩ (.int .i64 ((v : Int) + 1))) ∧ Fil T b acc f' ∧ f' 33 = .int .i64 ((v + 1 : Nat) : Int)) := by
            rw [Hid, Dm.padC_succ u v huv, ← List.append_assoc]
            refine ⟨_, HS3.out, ?_, by simp [upd]⟩
            obtain ⟨g0, g1, g2, g3, g4, g5, g6⟩ := HFil.out
            refine ⟨by simp [upd, g0], by simp [upd, g1], by simp [upd, g2], by simp [upd, g3], by simp [upd, g4], by simp [upd, g5], fun i c hi => ?_⟩
            have hi2 := (List.getElem?_eq_some_iff.1 hi).1
            rw [Dm.cur_len] at hi2
            simp only [upd]
            rw [if_neg (by omega)]
            exact g6 i c hi
          have C33 := Lib.hid c33
          clear hs2 HS3 HSd c33 c0 z33
          go_wp2_with fail
          go_roundw
          case rel => exact ⟨v + 1, rfl, by omega, by omega, HFin⟩
          case measure => simp only [m1.out, C33.out]; omega
      · obtain rfl : v = 16 := by omega
        have c33' : wr.cell? ⟨d, 33, none⟩ = some (.int .i64 16) := c33
        clear c33
        have c33 := c33'
        clear c33'
        have hp1 : IntKind.i64.wrap ((u : Int) + 1) = (u : Int) + 1 := IntWalk.i64_in _ (by omega)
        have hp2 : IntKind.i64.wrap ((u : Int) + 2) = (u : Int) + 2 := IntWalk.i64_in _ (by omega)
        have hu0 : (0 : Int) ≤ (u : Int) := by omega
        have hu1 : (u : Int) < 18 := by omega
        have hu2 : (u : Int) + 1 < 18 := by omega
        have hu3 : (0 : Int) ≤ (u : Int) + 1 := by omega
        have hsl : ∀ w, _ := fun w => run_to18 d ((u : Int) + 2) (by omega) (by omega) w
        have ek : ((u : Int) + 2).toNat = u + 2 := by omega
        rw [ek] at hsl
        have cr : wr.cell? ⟨d, 1 + u, none⟩ = some (f (1 + u)) := HSt.out.cell _ (by omega)
        have zr : wr.frozen? ⟨d, 1 + u, none⟩ = false := HSt.out.fz _
        have HS1 := Lib.hid (HSt.out.set HSK.out hd hdb (1 + u) (.int .u8 124))
        have HS2 := Lib.hid ((HS1.out.set HSK.out hd hdb (1 + (u + 1)) (.int .u8 10)).drew HSK.out)
        have cr2 : (wr.setCell ⟨d, 1 + u, none⟩ (.int .u8 124)).cell? ⟨d, 1 + (u + 1), none⟩ = some (upd f (1 + u) (.int .u8 124) (1 + (u + 1))) := HS1.out.cell _ (by omega)
        have zr2 : (wr.setCell ⟨d, 1 + u, none⟩ (.int .u8 124)).frozen? ⟨d, 1 + (u + 1), none⟩ = false := HS1.out.fz _
        have c0b : ((wr.setCell ⟨d, 1 + u, none⟩ (.int .u8 124)).setCell ⟨d, 1 + (u + 1), none⟩ (.int .u8 10)).cell? ⟨d, 0, none⟩ = some (.iface T (.pointer (some ⟨b, 0, none⟩))) := by
          have := HS2.out.cell 0 (by omega)
          rw [show upd (upd f (1 + u) (.int .u8 124)) (1 + (u + 1)) (.int .u8 10) 0 = f 0 by simp only [upd]; rw [if_neg (by omega), if_neg (by omega)], HFil.out.1] at this
          exact this
        have O2 : Hid (∀ i x, ((Dm.cur acc).map Dm.toCh ++ [124, 10])[i]? = some x → upd (upd f (1 + u) (.int .u8 124)) (1 + (u + 1)) (.int .u8 10) (1 + i) = .int .u8 (x.toNat : Int)) := by
          refine map_cells' (n := u) (fun i c hi => ?_) (by rw [Dm.cur_len, HU.out]) (by simp only [upd]; rw [if_neg (by omega), if_pos trivial]) (by simp only [upd]; rw [if_pos (by omega)])
          have hi2 := (List.getElem?_eq_some_iff.1 hi).1
          rw [Dm.cur_len, HU.out] at hi2
          simp only [upd]
          rw [if_neg (by omega), if_neg (by omega)]
          exact HFil.out.2.2.2.2.2.2 i c hi
        have HL2 : Hid (((Dm.cur acc).map Dm.toCh ++ [124, 10]).length = u + 2) := by simp [Hid, Dm.cur_len, HU.out]
        clear ek
        go_wp2_with fail
        go_region_with (go_at_fn F; (refine (HS2.out.write HSK.out hdb 1 (u + 2) 18 ((Dm.cur acc).map Dm.toCh ++ [124, 10]) HL2.out O2.out (by omega) (by rw [List.length_append]; omega)).mono ?_; rintro e w2 ⟨rfl, hs2⟩))
        have HS3 := Lib.hid hs2
        clear hs2
        go_wp2_with fail
        go_ret
        refine ⟨rfl, ?_, HS3.out.2.2⟩
        have := HS3.out.1
        rw [HD.out, HU.out]
        exact this

end Go.Proofs.Ytkhoifaakidfcaa
