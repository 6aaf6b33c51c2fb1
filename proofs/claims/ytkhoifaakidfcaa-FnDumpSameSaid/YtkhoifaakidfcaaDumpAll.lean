/-
  Contracts: encoding/hex.Dumper; encoding/hex.Dump; the thin package's Dump and DumpParts.
-/
import Derived.Test.YtkhoifaakidfcaaDumpW
import Derived.Test.YtkhoifaakidfcaaDumpC
import Derived.Test.YtkhoifaakidfcaaBldSink
import Derived.Test.YtkhoifaakidfcaaParts
namespace Go.Proofs.Ytkhoifaakidfcaa
open Go.RowKit Go.Lib
set_option linter.unusedVariables false
attribute [local go_sem ↓] Go.wp_at_zero Go.wp_at_succ

def dmpCells (v : Value) : Array Value := #[v] ++ Array.replicate 32 (.int .u8 0) ++ #[.int .i64 0, .int .u64 0, .bool false]

theorem dmpCells_row (w : World) (v : Value) : (w.alloc (.cells (dmpCells v) 66)).rowIs w.heap.size 66 36 (fun i => if i = 0 then v else if i = 33 then .int .i64 0 else if i = 34 then .int .u64 0 else if i = 35 then .bool false else .int .u8 0) := by
  have e : (dmpCells v).size = 36 := by simp [dmpCells]
  have h := World.rowIs_alloc w (dmpCells v) 66 (fun i => if i = 0 then v else if i = 33 then .int .i64 0 else if i = 34 then .int .u64 0 else if i = 35 then .bool false else .int .u8 0) (fun i hi => by
    rw [e] at hi
    unfold dmpCells
    rcases Nat.lt_or_ge i 33 with h | h
    · rw [Array.getElem?_append_left (by simp; omega)]
      cases i with
      | zero => rw [Array.getElem?_append_left (by simp)]; rfl
      | succ i =>
        rw [Array.getElem?_append_right (by simp), if_neg (by omega), if_neg (by omega), if_neg (by omega), if_neg (by omega), show i + 1 - (#[v] : Array Value).size = i by simp, Array.getElem?_replicate, if_pos (by omega)]
    · rw [Array.getElem?_append_right (by simp; omega)]
      have es : (#[v] ++ Array.replicate 32 (Value.int .u8 0)).size = 33 := by simp
      rw [es]
      obtain ⟨m, rfl⟩ : ∃ m, i = 33 + m := ⟨i - 33, by omega⟩
      rw [Nat.add_sub_cancel_left]
      match m with
      | 0 => simp
      | 1 => simp
      | 2 => simp
      | m + 3 => omega)
  rwa [e] at h

theorem wpList_val {a : Act} {o : Oper} {ops : Array Oper} {rest : List Oper} {Q : Exit → Act → World → Prop} {w : World} (hgd : o.guard = none) (v : Value) (w' : World) (hrun : (execOp a.eval o).run Try.prog w = .ok (.value v) w') (h : wpList Try.prog ops Q rest (a.put o.dst v) w') : wpList Try.prog ops Q (o :: rest) a w :=
  wpList_plain hgd fun K hK => by unfold Oper.wp; rw [hrun, Oper.upon_value]; exact hK _ _ h

theorem dmpBuild (T b : Nat) (w : World) : (Instr.build 66 #[(0, .iface T (.pointer (some ⟨b, 0, none⟩)))]).run Try.prog w = .ok (.agg (dmpCells (.iface T (.pointer (some ⟨b, 0, none⟩))))) w := by kernel_rfl

theorem dmpBox (v : Value) (w : World) : (Instr.box 66 (.agg (dmpCells v))).run Try.prog w = .ok (.pointer (some ⟨w.heap.size, 0, none⟩)) (w.alloc (.cells (dmpCells v) 66)) := by kernel_rfl

set_option maxHeartbeats 400000 in
set_option maxRecDepth 100000 in
theorem newDumper (T b : Nat) (w : World) : Calls Try.prog 23 #[.iface T (.pointer (some ⟨b, 0, none⟩))] w fun e w' => e = .returned (.iface 62 (.pointer (some ⟨w.heap.size, 0, none⟩))) ∧ (∃ o, w' = w.alloc o) ∧ ∃ f, w'.rowIs w.heap.size 66 36 f ∧ Fld T b [] f := by
  have hbd := dmpBuild T b
  have hbx := dmpBox (.iface T (.pointer (some ⟨b, 0, none⟩)))
  have HR := Lib.hid (dmpCells_row w (.iface T (.pointer (some ⟨b, 0, none⟩))))
  generalize dmpCells (.iface T (.pointer (some ⟨b, 0, none⟩))) = C at *
  have HBD := Lib.hid hbd
  have HBX := Lib.hid hbx
  clear hbd hbx
  go_enter Try.func23, Try.ntmps23
  go_wp2_with (first | (refine wpList_val (o := ⟨some 4, _, _, _, _, _⟩) rfl (.agg C) w ?_ ?_; (unfold execOp; simp only [Sem.run_bind, Sem.run_pure, List.map_toArray, List.map_cons, List.map_nil]; exact congrArg (fun r => Result.andThen r _) (HBD.out w))) | (refine wpList_val (o := ⟨some 5, _, _, _, _, _⟩) rfl (.pointer (some ⟨w.heap.size, 0, none⟩)) (w.alloc (.cells C 66)) ?_ ?_; exact congrArg (fun r => Result.andThen r _) (HBX.out w)))
  go_ret
  exact ⟨rfl, ⟨_, rfl⟩, _, HR.out, rfl, rfl, rfl, rfl, fun i c hi => by simp [Dm.cur] at hi⟩

theorem dmpMethodW (a : Addr) (w : World) : (method 201 62 (.pointer (some a)) "Write").run Try.prog w = .ok (64, .pointer (some a)) w := by kernel_rfl
theorem dmpMethodC (a : Addr) (w : World) : (method 201 62 (.pointer (some a)) "Close").run Try.prog w = .ok (63, .pointer (some a)) w := by kernel_rfl
theorem dmpAhead (a : Addr) (w : World) : (nilAhead 201 62 (.pointer (some a)) "Write").run Try.prog w = .ok (some false) w := by kernel_rfl

theorem BldS.alloc {b B : Nat} {l : List UInt8} {w : World} (h : BldS b B l w) (o : Obj) : BldS b B l (w.alloc o) := by
  obtain ⟨hB, v, hbk, hown, hne⟩ := h
  exact ⟨hB, v, (Below.heap_alloc w o b (Lib.lt_of_heap hbk)).trans hbk, hown.alloc o, hne⟩

theorem dumpL_nil : Dm.dumpL [] = [] := by simp [Dm.dumpL, Dm.full]

set_option maxHeartbeats 1000000 in
set_option maxRecDepth 100000 in
theorem hexDump (A : Option Addr) (n c : Nat) (l : List UInt8) (w : World) (h : RB w A n l) (hc : n ≤ c) (hcm : c ≤ 9223372036854775807) (hbig : 33 * n + 1000 ≤ 140737488355328) :
    Calls Try.prog 21 #[.slice A n c] w fun e w' => e = .returned (.string ⟨(Dm.dumpL l).toArray⟩) ∧ Below w.heap.size w w' := by
  have HB := Lib.hid h
  have HL : Hid (l.length = n) := h.1
  clear h
  by_cases h0 : n = 0
  · subst h0
    have hl : l = [] := List.eq_nil_of_length_eq_zero HL.out
    subst hl
    go_enter Try.func21, Try.ntmps21
    go_wp2_with fail
    go_ret
    exact ⟨by rw [dumpL_nil]; rfl, Below.refl _ _⟩
  · have hn0 : ((n : Int) == 0) = false := by simp; omega
    have hm1 := dmpMethodW
    have hm2 := dmpMethodC
    go_enter Try.func21, Try.ntmps21
    go_wp2_with fail
    have em : (1 + ((n : Int) - 1) / 16) * 79 = (((1 + (n - 1) / 16) * 79 : Nat) : Int) := by omega
    rw [em]
    refine (Try.Builder_Grow_fresh w.heap.size w.heap.size ((1 + (n - 1) / 16) * 79) _ (Nat.le_refl _) (heap_alloc_new w _) (by simp) (by omega)).mono ?_
    rintro e w1 ⟨rfl, hB1, hb1⟩
    have HS1 : Hid (BldS w.heap.size w.heap.size [] w1) := hB1
    have HB1 : Hid (Below w.heap.size w w1) := ((Below.refl _ w).alloc (Nat.le_refl _) _).trans hb1
    have hlt : w.heap.size < w1.heap.size := Lib.lt_of_heap (BldS.parts HS1.out).2.choose_spec.choose_spec.1
    clear hB1 hb1 em
    go_wp2_with fail
    refine (newDumper _ _ _).mono ?_
    rintro e w2 ⟨rfl, ⟨o2, rfl⟩, f, hrow, hfl⟩
    have HFl := Lib.hid hfl
    have HSt : Hid (Stt (BldS w.heap.size w.heap.size) w w1.heap.size (Dm.outL []) f (w1.alloc o2)) := ⟨by rw [Dm.outL_nil]; exact BldS.alloc HS1.out o2, hrow, HB1.out.alloc HB1.out.size _⟩
    have hsz : w.heap.size ≤ w1.heap.size := HB1.out.size
    have hdb : w1.heap.size ≠ w.heap.size := by omega
    clear hfl hrow
    go_wp2_with fail
    refine (dmpWrite 55 62 w.heap.size w1.heap.size w (BldS w.heap.size w.heap.size) (bldSink _ _ (Nat.le_refl _)) hsz hdb A n c l [] _ f HB.out hc hcm HSt.out HFl.out (by simp; omega)).mono ?_
    rintro e w3 ⟨rfl, f3, hs3, hf3⟩
    have HS3 := Lib.hid hs3
    have HF3 := Lib.hid hf3
    clear hs3 hf3
    go_wp2_with fail
    refine (dmpClose 55 62 w.heap.size w1.heap.size w (BldS w.heap.size w.heap.size) (bldSink _ _ (Nat.le_refl _)) hsz hdb ([] ++ l) _ f3 HS3.out HF3.out (by have := HL.out; simp; omega)).mono ?_
    rintro e w4 ⟨rfl, hs4, hb4⟩
    have HS4 := Lib.hid hs4
    have HB4 := Lib.hid hb4
    clear hs4 hb4
    go_wp2_with fail
    refine (Try.Builder_String_any w.heap.size w.heap.size (Dm.dumpL ([] ++ l)) _ (Or.inr HS4.out) HB4.out.size).mono ?_
    rintro e w5 ⟨rfl, hb5⟩
    have HB5 := Lib.hid (HB4.out.trans hb5)
    clear hb5
    go_wp2_with fail
    go_ret
    exact ⟨by simp, HB5.out⟩

set_option maxHeartbeats 400000 in
/-- The thin package's Dump. -/
theorem implDump (A : Option Addr) (n c : Nat) (l : List UInt8) (w : World) (h : RB w A n l) (hc : n ≤ c) (hcm : c ≤ 9223372036854775807) (hbig : 33 * n + 1000 ≤ 140737488355328) :
    Calls Try.prog 14 #[.slice A n c] w fun e w' => ∃ s : ByteArray, e = .returned (.string s) ∧ Hid (s.toList = Dm.dumpL l) ∧ Hid (s.size = (Dm.dumpL l).length) ∧ Below w.heap.size w w' := by
  have HB := Lib.hid h
  clear h
  go_enter Try.func14, Try.ntmps14
  go_wp2_with fail
  refine (hexDump A n c l _ HB.out hc hcm hbig).mono ?_
  rintro e w1 ⟨rfl, hb⟩
  go_wp2_with fail
  go_ret
  exact ⟨⟨(Dm.dumpL l).toArray⟩, rfl, by simp [Hid, Go.ByteArray.toList_eq], by simp [Hid, ByteArray.size], hb⟩

set_option maxHeartbeats 1000000 in
set_option maxRecDepth 100000 in
/-- The thin package's DumpParts: the dump of all parts together. -/
theorem dumpParts (A : Option Addr) (n c : Nat) (ls : List (List UInt8)) (w : World) (h : RP w A n ls) (hn : n ≤ 140737488351232) (hbig : 33 * ls.flatten.length + 1000 ≤ 140737488355328) :
    Calls Try.prog 16 #[.slice A n c] w fun e w' => ∃ s : ByteArray, e = .returned (.string s) ∧ Hid (s.toList = Dm.dumpL ls.flatten) ∧ Hid (s.size = (Dm.dumpL ls.flatten).length) ∧ Below w.heap.size w w' := by
  have HP := Lib.hid h
  have hm1 := dmpMethodW
  have hm2 := dmpMethodC
  have hna := dmpAhead
  clear h
  go_enter Try.func16, Try.ntmps16
  go_wp2_with fail
  refine (newDumper _ _ _).mono ?_
  rintro e w1 ⟨rfl, ⟨o1, rfl⟩, f0, hrow, hfl⟩
  have HSt : Hid (Stt (BufS w.heap.size w.heap.size) w (w.heap.size + 1) (Dm.outL []) f0 ((w.alloc (.cells #[.slice none 0 0, .int .i64 0, .int .i8 0] 38)).alloc o1)) := by
    refine ⟨by rw [Dm.outL_nil]; exact (Lib.fresh_isBuffer 38 5 w).alloc o1, by simpa using hrow, ((Below.refl _ w).alloc (Nat.le_refl _) _).alloc (by simp) _⟩
  have HFl := Lib.hid hfl
  clear hrow hfl
  go_wp2_with fail
  go_loopw [5] (fun vi wr => ∃ k : Nat, k ≤ n ∧ vi = .int .i64 k ∧ Hid (∃ f, Stt (BufS w.heap.size w.heap.size) w (w.heap.size + 1) (Dm.outL (ls.take k).flatten) f wr ∧ Fld 42 w.heap.size (ls.take k).flatten f)) (fun vi _ => n - (RowKit.intOf vi).toNat)
  case atStart => exact ⟨0, Nat.zero_le _, rfl, ⟨f0, HSt.out, HFl.out⟩⟩
  case round =>
    obtain ⟨k, hk, rfl, hE⟩ := hrel
    obtain ⟨f, hst, hfl⟩ := hE.out
    have HS := Lib.hid hst
    have HF := Lib.hid hfl
    clear hst hfl
    by_cases hlt : k < n
    · obtain ⟨b, o, l, Y, m, c2, rfl, hbs, hl, hcell, hR, hc1, hc2⟩ := HP.out.at_ hlt
      have hcx : wr.cell? ⟨b, o + k, none⟩ = some (.slice Y m c2) := (HS.out.2.2.cell (p := ⟨b, o + k, none⟩) hbs).trans hcell
      have HFl : Hid ((ls.take (k + 1)).flatten = (ls.take k).flatten ++ l) := by
        obtain ⟨hk', e⟩ := List.getElem?_eq_some_iff.1 hl
        rw [Hid, List.take_succ_eq_append_getElem hk', e]; simp
      have hfit : 33 * ((ls.take k).flatten.length + m) + 100 ≤ 140737488355328 := by
        have h1 : (ls.take (k + 1)).flatten.length ≤ ls.flatten.length := by
          have := congrArg (fun x => x.flatten.length) (List.take_append_drop (k + 1) ls)
          simp only [List.flatten_append, List.length_append] at this
          omega
        rw [HFl.out, List.length_append, hR.len] at h1
        omega
      have HR := Lib.hid hR
      have hkn : (k : Int) < (n : Int) := by omega
      have HSd := Lib.hid (HS.out.drew (bufSink w.heap.size w.heap.size (Nat.le_refl _)))
      clear hcell hR hl
      go_wp2_with fail
      go_region_with (go_at_call 64; (refine (dmpWrite 42 54 w.heap.size (w.heap.size + 1) w (BufS w.heap.size w.heap.size) (bufSink _ _ (Nat.le_refl _)) (by omega) (by omega) Y m c2 l _ _ f HR.out hc1 hc2 HSd.out HF.out hfit).mono ?_; rintro e w2 ⟨rfl, f2, hs2, hf2⟩))
      all_goals
        have HS2 : Hid (∃ f, Stt (BufS w.heap.size w.heap.size) w (w.heap.size + 1) (Dm.outL (ls.take (k + 1)).flatten) f w2 ∧ Fld 42 w.heap.size (ls.take (k + 1)).flatten f) := by
          rw [Hid, HFl.out]
          exact ⟨f2, hs2, hf2⟩
        clear hs2 hf2
        go_wp2_with fail
        go_roundw
        case rel => exact ⟨k + 1, by omega, by go_num, HS2⟩
        case measure => simp [RowKit.intOf]; omega
    · have hk2 : k = n := by omega
      subst hk2
      have e : ls.take k = ls := by rw [← HP.out.len, List.take_length]
      rw [e] at HS HF
      clear e hE
      go_wp2_with fail
      refine (dmpClose 42 54 w.heap.size (w.heap.size + 1) w (BufS w.heap.size w.heap.size) (bufSink _ _ (Nat.le_refl _)) (by omega) (by omega) ls.flatten _ f HS.out HF.out (by omega)).mono ?_
      rintro e w4 ⟨rfl, hs4, hb4⟩
      have HS4 := Lib.hid hs4
      have HB4 := Lib.hid hb4
      clear hs4 hb4
      go_wp2_with fail
      refine (Try.Buffer_String w.heap.size w.heap.size (Dm.dumpL ls.flatten) _ HS4.out).mono ?_
      rintro e w5 ⟨rfl, q, rfl⟩
      go_wp2_with fail
      go_ret
      exact ⟨⟨(Dm.dumpL ls.flatten).toArray⟩, rfl, by simp [Hid, Go.ByteArray.toList_eq], by simp [Hid, ByteArray.size], below_drewN HB4.out _⟩

end Go.Proofs.Ytkhoifaakidfcaa
