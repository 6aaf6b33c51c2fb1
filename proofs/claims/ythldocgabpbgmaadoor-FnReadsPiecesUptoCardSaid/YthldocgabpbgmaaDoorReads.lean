/-
  Contracts: encoding/hex.NewDecoder; the thin package's DecodeReads.
-/
import Derived.Test.YthldocgabpbgmaaDoorDecRead
import Derived.Test.YthldocgabpbgmaaDoorOwnV
import Derived.Test.YthldocgabpbgmaaDoorClone
namespace Go.Proofs.YthldocgabpbgmaaDoor
open Go.RowKit Go.Lib
set_option linter.unusedVariables false
attribute [local go_sem ↓] Go.wp_at_zero Go.wp_at_succ

def decCells (v : Value) : Array Value := #[v, .nilIface, .slice none 0 0] ++ Array.replicate 1024 (.int .u8 0)
def decFn (v : Value) : Nat → Value := fun i => if i = 0 then v else if i = 1 then .nilIface else if i = 2 then .slice none 0 0 else .int .u8 0

theorem decCells_row (w : World) (v : Value) : (w.alloc (.cells (decCells v) 54)).rowIs w.heap.size 54 1027 (decFn v) := by
  have h := World.rowIs_alloc w (decCells v) 54 (decFn v) (fun i hi => by
    match i with
    | 0 => unfold decCells; rw [Array.getElem?_append_left (by simp)]; rfl
    | 1 => unfold decCells; rw [Array.getElem?_append_left (by simp)]; rfl
    | 2 => unfold decCells; rw [Array.getElem?_append_left (by simp)]; rfl
    | i + 3 =>
      have : i < 1024 := by simp [decCells] at hi; omega
      unfold decCells decFn
      rw [Array.getElem?_append_right (by simp)]
      simp [this])
  have e : (decCells v).size = 1027 := by simp [decCells]
  rwa [e] at h

theorem wpList_val {a : Act} {o : Oper} {ops : Array Oper} {rest : List Oper} {Q : Exit → Act → World → Prop} {w : World} (hgd : o.guard = none) (v : Value) (w' : World) (hrun : (execOp a.eval o).run Tryd.prog w = .ok (.value v) w') (h : wpList Tryd.prog ops Q rest (a.put o.dst v) w') : wpList Tryd.prog ops Q (o :: rest) a w :=
  wpList_plain hgd fun K hK => by unfold Oper.wp; rw [hrun, Oper.upon_value]; exact hK _ _ h

theorem decBuild (T b : Nat) (w : World) : (Instr.build 54 #[(0, .iface T (.pointer (some ⟨b, 0, none⟩)))]).run Tryd.prog w = .ok (.agg (decCells (.iface T (.pointer (some ⟨b, 0, none⟩))))) w := by kernel_rfl
theorem decBox (v : Value) (w : World) : (Instr.box 54 (.agg (decCells v))).run Tryd.prog w = .ok (.pointer (some ⟨w.heap.size, 0, none⟩)) (w.alloc (.cells (decCells v) 54)) := by kernel_rfl

set_option maxHeartbeats 400000 in
set_option maxRecDepth 100000 in
theorem newDecoder (T b : Nat) (w : World) : Calls Tryd.prog 14 #[.iface T (.pointer (some ⟨b, 0, none⟩))] w fun e w' => e = .returned (.iface 51 (.pointer (some ⟨w.heap.size, 0, none⟩))) ∧ w'.rowIs w.heap.size 54 1027 (decFn (.iface T (.pointer (some ⟨b, 0, none⟩)))) ∧ ∃ o, w' = w.alloc o := by
  have hbd := decBuild T b
  have hbx := decBox (.iface T (.pointer (some ⟨b, 0, none⟩)))
  have HR := Lib.hid (decCells_row w (.iface T (.pointer (some ⟨b, 0, none⟩))))
  generalize decCells (.iface T (.pointer (some ⟨b, 0, none⟩))) = C at *
  have HBD := Lib.hid hbd
  have HBX := Lib.hid hbx
  clear hbd hbx
  go_enter Tryd.func14, Tryd.ntmps14
  go_wp2_with (first | (refine wpList_val (o := ⟨some 4, _, _, _, _, _⟩) rfl (.agg C) w ?_ ?_; (unfold execOp; simp only [Sem.run_bind, Sem.run_pure, List.map_toArray, List.map_cons, List.map_nil]; exact congrArg (fun r => Result.andThen r _) (HBD.out w))) | (refine wpList_val (o := ⟨some 5, _, _, _, _, _⟩) rfl (.pointer (some ⟨w.heap.size, 0, none⟩)) (w.alloc (.cells C 54)) ?_ ?_; exact congrArg (fun r => Result.andThen r _) (HBX.out w)))
  go_ret
  exact ⟨rfl, HR.out, _, rfl⟩

namespace Hex
theorem after_snoc (pc : Nat) (s : St) (ks : List Nat) (k : Nat) : after pc s (ks ++ [k]) = (step pc k (after pc s ks)).2 := by
  induction ks generalizing s with
  | nil => rfl
  | cons x t ih => simp only [List.cons_append, after]; exact ih _
theorem reads_snoc (pc : Nat) (s : St) (ks : List Nat) (k : Nat) : reads pc s (ks ++ [k]) = reads pc s ks ++ [(step pc k (after pc s ks)).1] := by
  induction ks generalizing s with
  | nil => rfl
  | cons x t ih => simp only [List.cons_append, reads, after]; rw [ih]
theorem ends_snoc (pc : Nat) (s : St) (ks : List Nat) (k : Nat) : ends pc s (ks ++ [k]) = ends pc s ks ++ [code (step pc k (after pc s ks)).2] := by
  induction ks generalizing s with
  | nil => rfl
  | cons x t ih => simp only [List.cons_append, ends, after]; rw [ih]
end Hex

/-- A decoder that was just made. -/
theorem Dec.start {w : World} {a b : Addr} {p d pc n c : Nat} {f : Nat → Value} {A : Option Addr} {l : List UInt8} (hpd : p < d) (hp : w.rowIs p 44 2 f) (f0 : f 0 = .slice A n c) (f1 : f 1 = .int .i64 (pc : Int)) (hr : RB w A n l) (hn : n ≤ c) (hc : c ≤ 9223372036854775807) (hs : Src w p A)
    (hd : w.rowIs d 54 1027 (decFn (.iface 41 (.pointer (some ⟨p, 0, none⟩))))) : Dec w a b p d pc ⟨[], l, none⟩ :=
  ⟨hpd, ⟨f, A, n, c, hp, f0, f1, hr, hn, hc, hs⟩, _, none, 0, 0, 0, hd, rfl, rfl, rfl, rfl, by omega, by omega, fun h => absurd h (by omega), fun i c h => by simp at h⟩

theorem OB.src {w : World} {B n c p : Nat} {A : Option Addr} {l : List UInt8} (h : OB w B A n c l) (hp : w.heap.size ≤ p) : Src w p A := by
  intro b o e
  subst e
  rcases h.2.2 with ⟨he, h0⟩ | ⟨g, cap, cur, hv, hg, hh, hr⟩
  · injection he with he; cases he
  · injection hv with hv; injection hv with hv; injection hv with h1; subst h1
    have := (Array.getElem?_eq_some_iff.1 hh).1
    exact ⟨by omega, cur, _, hh⟩

theorem Chg.ofBelow {w w' : World} (h : Below w.heap.size w w') : Chg (fun _ => False) w w' := ⟨h.os, h.tape, h.output, h.size, fun i hi _ => h.block i hi⟩

/-- What holds between two steps of DecodeReads. -/
structure LS (w0 : World) (a b : Addr) (p d pc : Nat) (s : Hex.St) (X : Option Addr) (n c : Nat) (ls : List (List UInt8)) (Y : Option Addr) (m e : Nat) (zs : List Int) (w : World) : Prop where
  dec : Dec w a b p d pc s
  low : w0.heap.size ≤ p
  els : ∃ vs, OV w w0.heap.size 22 X n c vs ∧ ELs w d vs ls
  ints : OV w w0.heap.size 3 Y m e (zs.map fun z => Value.int .i64 z)
  below : Below w0.heap.size w0 w

section
variable {w0 w w' : World} {a b : Addr} {p d pc n c m e : Nat} {s : Hex.St} {X Y : Option Addr} {ls : List (List UInt8)} {zs : List Int}

theorem LS.typP (h : LS w0 a b p d pc s X n c ls Y m e zs w) : Typ w 44 p := by
  obtain ⟨_, ⟨f, A, n, c, h1, _⟩, _⟩ := h.dec
  exact Typ.row h1
theorem LS.typD (h : LS w0 a b p d pc s X n c ls Y m e zs w) : Typ w 54 d := by
  obtain ⟨_, _, g, X, m, k, o, h1, _⟩ := h.dec
  exact Typ.row h1
theorem LS.pd (h : LS w0 a b p d pc s X n c ls Y m e zs w) : p < d := h.dec.1

/-- Blocks that are not the decoder's, not of bytes, and not the other list's are written. -/
theorem LS.keep {S : Nat → Prop} (h : LS w0 a b p d pc s X n c ls Y m e zs w) (hg : Chg S w w') (h1 : ¬ S p) (h2 : ¬ S d) (h3 : ∀ q, Typ w 5 q → ¬ S q) (h4 : ∀ q, Typ w 22 q → ¬ S q) (h5 : ∀ q, Typ w 3 q → ¬ S q) (h6 : ∀ i, S i → w0.heap.size ≤ i) : LS w0 a b p d pc s X n c ls Y m e zs w' := by
  obtain ⟨vs, e1, e2⟩ := h.els
  exact ⟨h.dec.kept hg h2 h1 (fun b _ hb => h3 b hb), h.low, ⟨vs, e1.kept hg (fun b _ hb => h4 b hb), e2.kept hg (fun q _ hq => h3 q hq)⟩, h.ints.kept hg (fun b _ hb => h5 b hb), h.below.trans (hg.below h6 h.below.size)⟩

theorem LS.alloc (h : LS w0 a b p d pc s X n c ls Y m e zs w) (o : Obj) : LS w0 a b p d pc s X n c ls Y m e zs (w.alloc o) :=
  h.keep (S := fun _ => False) ((Chg.refl _ w).alloc o) (fun h => h) (fun h => h) (fun _ _ h => h) (fun _ _ h => h) (fun _ _ h => h) (fun _ h => h.elim)
theorem LS.drew (h : LS w0 a b p d pc s X n c ls Y m e zs w) : LS w0 a b p d pc s X n c ls Y m e zs w.drew :=
  h.keep (S := fun _ => False) (Chg.refl _ w).drew (fun h => h) (fun h => h) (fun _ _ h => h) (fun _ _ h => h) (fun _ _ h => h) (fun _ h => h.elim)

/-- A read into a new buffer. -/
theorem LS.read {t : Hex.St} {o : Obj} (h : LS w0 a b p d pc s X n c ls Y m e zs w) (hg : Chg (fun i => i = p ∨ i = d ∨ i = w.heap.size) (w.alloc o) w') (hd : Dec w' a b p d pc t) :
    LS w0 a b p d pc t X n c ls Y m e zs w' := by
  have hg2 : Chg (fun i => i = p ∨ i = d ∨ i = w.heap.size) w w' := ((Chg.refl _ w).alloc o).trans hg
  have hpd := h.pd
  obtain ⟨vs, e1, e2⟩ := h.els
  have hp := h.typP
  have hdd := h.typD
  have nS : ∀ T, T ≠ 44 → T ≠ 54 → ∀ q, Typ w T q → ¬ (q = p ∨ q = d ∨ q = w.heap.size) := by
    intro T t1 t2 q hq hs
    rcases hs with rfl | rfl | rfl
    · exact t1 (hq.one hp)
    · exact t2 (hq.one hdd)
    · exact absurd hq.lt (by omega)
  exact ⟨hd, h.low, ⟨vs, e1.kept hg2 (fun b _ hb => nS _ (by decide) (by decide) b hb), e2.kept hg2 (fun q _ hq => nS _ (by decide) (by decide) q hq)⟩, h.ints.kept hg2 (fun b _ hb => nS _ (by decide) (by decide) b hb),
    h.below.trans (hg2.below (fun i hi => by have := h.low; have := h.below.size; omega) h.below.size)⟩

/-- The list of buffers is appended to. -/
theorem LS.appX {X' : Option Addr} {c' : Nat} {vs : List Value} {v : Value} {l : List UInt8} (h : LS w0 a b p d pc s X n c ls Y m e zs w) (ho : OV w w0.heap.size 22 X n c vs) (he : ELs w d vs ls) (hv : EL w d v l) (hg : w.grownBy w' (X.map (·.block))) (hn : OV w' w0.heap.size 22 X' (n + 1) c' (vs ++ [v])) :
    LS w0 a b p d pc s X' (n + 1) c' (ls ++ [l]) Y m e zs w' := by
  have hc := ho.chg hg
  have nS : ∀ T, T ≠ 22 → ∀ q, Typ w T q → ¬ (w0.heap.size ≤ q ∧ Typ w 22 q) := fun T t1 q hq hs => t1 (hq.one hs.2)
  exact ⟨h.dec.kept hc (nS _ (by decide) d h.typD) (nS _ (by decide) p h.typP) (fun b _ hb => nS _ (by decide) b hb), h.low, ⟨_, hn, (he.kept hc (fun q _ hq => nS _ (by decide) q hq)).snoc (hv.kept hc (fun q _ hq => nS _ (by decide) q hq))⟩,
    h.ints.kept hc (fun b _ hb => nS _ (by decide) b hb), h.below.trans (hc.below (fun i hi => hi.1) h.below.size)⟩

/-- The list of ends is appended to. -/
theorem LS.appY {Y' : Option Addr} {e' : Nat} {z : Int} (h : LS w0 a b p d pc s X n c ls Y m e zs w) (hg : w.grownBy w' (Y.map (·.block))) (hn : OV w' w0.heap.size 3 Y' (m + 1) e' ((zs.map fun z => Value.int .i64 z) ++ [.int .i64 z])) :
    LS w0 a b p d pc s X n c ls Y' (m + 1) e' (zs ++ [z]) w' := by
  have hc := h.ints.chg hg
  have nS : ∀ T, T ≠ 3 → ∀ q, Typ w T q → ¬ (w0.heap.size ≤ q ∧ Typ w 3 q) := fun T t1 q hq hs => t1 (hq.one hs.2)
  obtain ⟨vs, e1, e2⟩ := h.els
  exact ⟨h.dec.kept hc (nS _ (by decide) d h.typD) (nS _ (by decide) p h.typP) (fun b _ hb => nS _ (by decide) b hb), h.low, ⟨vs, e1.kept hc (fun b _ hb => nS _ (by decide) b hb), e2.kept hc (fun q _ hq => nS _ (by decide) q hq)⟩,
    by rw [List.map_append]; exact hn, h.below.trans (hc.below (fun i hi => hi.1) h.below.size)⟩
end

set_option maxHeartbeats 4000000 in
set_option maxRecDepth 100000 in
/-- DecodeReads: what is read by the model, and how each read ends. -/
theorem decodeReads (A : Option Addr) (n c : Nat) (l : List UInt8) (pc : Nat) (Z : Option Addr) (zn zc : Nat) (ks : List Nat) (w : World) (a b : Addr) (hE : ErrAt w a b) (h : RB w A n l) (hn : n ≤ 140737488355328) (hpc : pc ≤ 9223372036854775807)
    (hI : RI w Z zn (ks.map fun k : Nat => (k : Int))) (hks : ∀ k ∈ ks, k ≤ 1024) (hzn : zn ≤ 1048576) :
    Calls Tryd.prog 9 #[.slice A n c, .int .i64 (pc : Int), .slice Z zn zc] w fun e w' => ∃ X c1 Y c2, e = .returned (.tuple #[.slice X zn c1, .slice Y zn c2]) ∧ Hid (RP w' X zn (Hex.reads pc ⟨[], l, none⟩ ks)) ∧ Hid (RI w' Y zn (Hex.ends pc ⟨[], l, none⟩ ks)) ∧ Below w.heap.size w w' ∧ zn ≤ c1 ∧ c1 ≤ maxLen ∧ zn ≤ c2 ∧ c2 ≤ maxLen := by
  have HE := Lib.hid hE
  have HB := Lib.hid h
  have HI := Lib.hid hI
  have HKS := Lib.hid hks
  have HLo : Hid (a.block < w.heap.size ∧ b.block < w.heap.size ∧ 1 < w.heap.size) := by
    obtain ⟨⟨e1, s1, e2, _⟩, ⟨k1, t1, k2, _⟩, _⟩ := hE
    exact ⟨World.block_lt_of_cell? w _ e2, World.block_lt_of_cell? w _ k2, World.block_lt_of_cell? w _ k1⟩
  have HO1 : Hid (OV (w.alloc (.cells #[] 22)) w.heap.size 22 (some ⟨w.heap.size, 0, none⟩) 0 0 []) := OV.made w _ _ (Nat.le_refl _)
  have HO2 : Hid (OV ((w.alloc (.cells #[] 22)).alloc (.cells #[] 3)) w.heap.size 3 (some ⟨w.heap.size + 1, 0, none⟩) 0 0 []) := by
    have := OV.made (w.alloc (.cells #[] 22)) w.heap.size 3 (by simp)
    simpa [Hid] using this
  clear hE h hI hks
  go_enter Tryd.func9, Tryd.ntmps9
  go_wp2_with (go_at_call 15; refine (bytesClone A n c l _ (by exact (HB.out.alloc _).alloc _) hn).mono ?_; rintro e w3 ⟨A3, c3, rfl, ho3, hb3⟩; refine Hid.out ?_)
  refine Lib.hid ?_
  have HB3 : Hid (Below w.heap.size w w3) := (((Below.refl w.heap.size w).alloc (Nat.le_refl _) _).alloc (by simp) _).trans (hb3.mono (by simp; omega))
  have HO13 : Hid (OV w3 w.heap.size 22 (some ⟨w.heap.size, 0, none⟩) 0 0 []) := (HO1.out.kept (S := fun _ => False) ((Chg.refl _ _).alloc _) (fun _ _ _ h => h)).kept (Chg.ofBelow hb3) (fun _ _ _ h => h)
  have HO23 : Hid (OV w3 w.heap.size 3 (some ⟨w.heap.size + 1, 0, none⟩) 0 0 []) := HO2.out.kept (Chg.ofBelow hb3) (fun _ _ _ h => h)
  have HO33 := Lib.hid ho3
  clear HO1 HO2 ho3 hb3
  go_wp2_with (go_at_call 14; refine (newDecoder _ _ _).mono ?_; rintro e w5 ⟨rfl, hr5, o5, hw5⟩; have HW5 := Lib.hid hw5; clear hw5; refine Hid.out ?_)
  refine Lib.hid ?_
  have hw5 := HW5.out
  have HLS : Hid (LS w a b w3.heap.size (w3.heap.size + 1) pc ⟨[], l, none⟩ (some ⟨w.heap.size, 0, none⟩) 0 0 [] (some ⟨w.heap.size + 1, 0, none⟩) 0 0 [] w5) := by
    have hc5 : Chg (fun _ => False) w3 w5 := by rw [hw5]; exact ((Chg.refl _ w3).alloc _).alloc _
    have hp : w5.rowIs w3.heap.size 44 2 (fun i => if i = 0 then .slice A3 n c3 else .int .i64 (pc : Int)) := by
      rw [hw5]
      refine (World.rowIs_alloc w3 #[.slice A3 n c3, .int .i64 (pc : Int)] _ _ (fun i hi => ?_)).alloc _
      have : i < 2 := hi
      match i, this with
      | 0, _ => rfl
      | 1, _ => rfl
    have hsz : (w3.alloc (.cells #[.slice A3 n c3, .int .i64 (pc : Int)] 44)).heap.size = w3.heap.size + 1 := by simp
    rw [hsz] at hr5
    refine ⟨Dec.start (by omega) hp rfl rfl (hc5.rb HO33.out.rb (fun _ _ _ h => h)) HO33.out.le.1 (by have := HO33.out.le.2; simpa [maxLen] using this) ((HO33.out.src (Nat.le_refl _)).kept hc5 (fun _ _ _ h => h)) hr5, HB3.out.size, ⟨[], HO13.out.kept hc5 (fun _ _ _ h => h), ELs.nil_ _ _⟩, HO23.out.kept hc5 (fun _ _ _ h => h), HB3.out.trans (hc5.below (fun _ h => h.elim) HB3.out.size)⟩
  have hP1 : Hid (w.heap.size ≤ w3.heap.size) := HB3.out.size
  clear hr5 hw5 HW5 HO13 HO23 HO33 HB3
  go_wp2_with fail
  obtain ⟨d, hd⟩ : ∃ d, d = w3.heap.size + 1 := ⟨_, rfl⟩
  rw [← hd] at HLS ⊢
  obtain ⟨p, hp⟩ : ∃ p, p = w3.heap.size := ⟨_, rfl⟩
  rw [← hp] at HLS hP1
  have hmd := methDec d
  clear hd hp
  go_loopw [8, 9, 11] (fun vo ve vi wr => ∃ (k : Nat) (X : Option Addr) (cx : Nat) (Y : Option Addr) (cy : Nat), k ≤ zn ∧ vo = .slice X k cx ∧ ve = .slice Y k cy ∧ vi = .int .i64 k ∧
      Hid (LS w a b p d pc (Hex.after pc ⟨[], l, none⟩ (ks.take k)) X k cx (Hex.reads pc ⟨[], l, none⟩ (ks.take k)) Y k cy (Hex.ends pc ⟨[], l, none⟩ (ks.take k)) wr)) (fun _ _ vi _ => zn - (intOf vi).toNat)
  case atStart => exact ⟨0, _, _, _, _, Nat.zero_le _, rfl, rfl, rfl, HLS.out⟩
  case round =>
    obtain ⟨k, X, cx, Y, cy, hk, rfl, rfl, rfl, hls⟩ := hrel
    clear HLS
    by_cases hlt : k < zn
    · obtain ⟨bz, oz, z, rfl, hbz, hz, hcz⟩ := HI.out.at_ hlt
      obtain ⟨K, hK, rfl⟩ : ∃ K : Nat, ks[k]? = some K ∧ (K : Int) = z := by
        rw [List.getElem?_map] at hz
        cases hh : ks[k]? with
        | none => rw [hh] at hz; cases hz
        | some K => rw [hh] at hz; exact ⟨K, rfl, by simpa using hz⟩
      have hK1 : K ≤ 1024 := HKS.out K (List.mem_of_getElem? hK)
      have hcz' : wr.cell? ⟨bz, oz + k, none⟩ = some (.int .i64 (K : Int)) := (hls.out.below.cell (p := ⟨bz, oz + k, none⟩) hbz).trans hcz
      have HTK : Hid (ks.take (k + 1) = ks.take k ++ [K]) := by
        obtain ⟨hk', e⟩ := List.getElem?_eq_some_iff.1 hK
        rw [Hid, List.take_succ_eq_append_getElem hk', e]
      have hmk := fun w => run_make_row' (P := Tryd.prog) 22 5 (.int .u8 0) 1 Tryd.underlying22 infoU8 rfl .i64 .i64 K (by omega) (by omega) w
      generalize hs : Hex.after pc ⟨[], l, none⟩ (ks.take k) = s at hls
      have HS := Lib.hid hs
      generalize hst : Hex.step pc K s = st
      obtain ⟨D, t⟩ := st
      have HST := Lib.hid hst
      have HE1 : Hid (ErrAt (wr.alloc (.cells (madeCells #[.int .u8 0] K) 5)) a b) := HE.out.below (hls.out.below.alloc hls.out.below.size _)
      have HD1 : Hid (Dec (wr.alloc (.cells (madeCells #[.int .u8 0] K) 5)) a b p d pc s) := (hls.out.alloc _).dec
      have HR1 : Hid ((wr.alloc (.cells (madeCells #[.int .u8 0] K) 5)).rowIs wr.heap.size 5 K (fun _ => .int .u8 0)) := World.rowIs_made wr _ _ _
      have hlo : a.block < p ∧ b.block < p ∧ 1 < p := by have h1 := HLo.out; have h2 := hP1.out; omega
      have hdq : d < wr.heap.size := hls.out.typD.lt
      have HDl : Hid (D.length ≤ K) := by
        have := Hex.give_le K (Hex.fill pc s)
        have e : Hex.give K (Hex.fill pc s) = (D, t) := HST.out
        rw [e] at this
        exact this
      clear hz hK hcz hs hst
      go_wp2_with (go_at_call 34; refine (decRead a b p d pc wr.heap.size K (fun _ => .int .u8 0) s _ HE1.out hlo hpc HD1.out HR1.out hdq hK1).mono ?_; rintro e w2 ⟨rfl, hD2, hq2, hc2⟩; refine Hid.out ?_)
      refine Lib.hid ?_
      rw [HST.out] at hD2 hq2 ⊢
      have HL2 : Hid (LS w a b p d pc t X k cx (Hex.reads pc ⟨[], l, none⟩ (ks.take k)) Y k cy (Hex.ends pc ⟨[], l, none⟩ (ks.take k)) w2) := hls.out.read hc2 hD2
      obtain ⟨f2, hf2, hf3⟩ := hq2
      obtain ⟨L, hL⟩ : ∃ L, D.length = L := ⟨_, rfl⟩
      have HLL := Lib.hid hL
      have hLK : L ≤ K := by rw [← hL]; exact HDl.out
      have HEL : Hid (EL w2 d (.slice (some ⟨wr.heap.size, 0, none⟩) L K) D) := ⟨wr.heap.size, K, f2, by rw [hL], hf2, HDl.out, hK1, hdq, hf3⟩
      have hto := fun w => run_to (some ⟨wr.heap.size, 0, none⟩) K K (L : Int) (by omega) (by omega) w
      simp only [Int.toNat_natCast] at hto
      simp only [hL]
      obtain ⟨q, hq⟩ : ∃ q, q = wr.heap.size := ⟨_, rfl⟩
      rw [← hq] at HEL hto ⊢
      have HL3 := Lib.hid (HL2.out.alloc (.cells #[.slice (some ⟨q, 0, none⟩) L K] 22))
      have HEL3 : Hid (EL (w2.alloc (.cells #[.slice (some ⟨q, 0, none⟩) L K] 22)) d (.slice (some ⟨q, 0, none⟩) L K) D) := HEL.out.kept (S := fun _ => False) ((Chg.refl _ w2).alloc _) (fun _ _ _ h => h)
      obtain ⟨vs, ho3, he3⟩ := HL3.out.els
      have HO3 := Lib.hid ho3
      have HE3 := Lib.hid he3
      have HC3 : Hid ((w2.alloc (.cells #[.slice (some ⟨q, 0, none⟩) L K] 22)).cell? ⟨w2.heap.size, 0, none⟩ = some (.slice (some ⟨q, 0, none⟩) L K)) := by rw [Hid, cell_of_row _ _ _ _ _ (0, 0) (heap_alloc_new w2 _)]; rfl
      have HS3 : Hid (w.heap.size ≤ (w2.alloc (.cells #[.slice (some ⟨q, 0, none⟩) L K] 22)).heap.size) := HL3.out.below.size
      have hkb : (k + 1) * 24 ≤ 140737488355328 := by omega
      have hkm : k + 1 ≤ maxLen := by simp only [maxLen]; omega
      clear hq hL hf2 hf3 hD2 hc2 HEL HL2 HE1 HD1 HR1 hls ho3 he3 hdq hmk hcz'
      go_wp2_with (at_builtin; refine wpList_app1 rfl (.tmp 41) (.tmp 45) 26 22 rfl (.slice none 0 0) 24 Tryd.underlying26 infoSl rfl w.heap.size k cx X vs rfl HO3.out w2.heap.size 1 (.slice (some ⟨q, 0, none⟩) L K) rfl HC3.out rfl hkb hkm HS3.out ?_; intro X4 c4 w4 hown4 hg4; refine Hid.out ?_)
      refine Lib.hid ?_
      have HL4 := Lib.hid (HL3.out.appX HO3.out HE3.out HEL3.out hg4 hown4)
      have HE4 : Hid (ErrAt w4 a b) := HE.out.below HL4.out.below
      clear hown4 hg4 HO3 HE3 HC3 HS3 HL3 HEL3 hto
      have HL5 := Lib.hid (HL4.out.alloc (.cells #[.int .i64 (Hex.num (told t))] 3))
      have HC5 : Hid ((w4.alloc (.cells #[.int .i64 (Hex.num (told t))] 3)).cell? ⟨w4.heap.size, 0, none⟩ = some (.int .i64 (Hex.num (told t)))) := by rw [Hid, cell_of_row _ _ _ _ _ (0, 0) (heap_alloc_new w4 _)]; rfl
      have HS5 : Hid (w.heap.size ≤ (w4.alloc (.cells #[.int .i64 (Hex.num (told t))] 3)).heap.size) := HL5.out.below.size
      have hkb2 : (k + 1) * 8 ≤ 140737488355328 := by omega
      go_wp2_with (first
        | (go_at_call 16; refine (ending_any a b (told t) _ HE4.out).mono ?_; rintro e w5 ⟨rfl, rfl⟩)
        | (at_builtin; refine wpList_app1 rfl (.tmp 47) (.tmp 50) 23 3 rfl (.int .i64 0) 8 Tryd.underlying23 infoInt rfl w.heap.size k cy Y _ rfl HL5.out.ints w4.heap.size 1 (.int .i64 (Hex.num (told t))) rfl HC5.out rfl hkb2 hkm HS5.out ?_; intro Y6 c6 w6 hown6 hg6; refine Hid.out ?_))
      refine Lib.hid ?_
      have HL6 := Lib.hid (HL5.out.appY hg6 hown6)
      rw [num_told, show t = (Hex.step pc K s).2 by rw [HST.out], show D = (Hex.step pc K s).1 by rw [HST.out], ← HS.out, ← Hex.reads_snoc, ← Hex.ends_snoc, ← Hex.after_snoc, ← HTK.out] at HL6
      clear hown6 hg6 HC5 HS5 HL5 HL4 HE4
      go_wp2_with fail
      go_roundw
      case rel => exact ⟨k + 1, X4, c4, Y6, c6, by omega, rfl, rfl, by go_num, HL6⟩
      case measure => simp [intOf]; omega
    · have hk2 : k = zn := by omega
      subst hk2
      have e : ks.take k = ks := by
        have := HI.out.len
        rw [List.length_map] at this
        rw [← this, List.take_length]
      rw [e] at hls
      clear e
      obtain ⟨vs, ho, he⟩ := hls.out.els
      have HRP := Lib.hid (ho.rp he)
      have HRI := Lib.hid hls.out.ints.ri
      have HX := Lib.hid ho.le
      have HY := Lib.hid hls.out.ints.le
      clear ho he
      go_wp2_with fail
      go_ret2
      exact ⟨X, cx, Y, cy, rfl, HRP, HRI, hls.out.below, HX.out.1, HX.out.2, HY.out.1, HY.out.2⟩

end Go.Proofs.YthldocgabpbgmaaDoor
