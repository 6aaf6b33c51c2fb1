/-
  Contracts of the drawing functions: pick. Of a pick only this is told: it lies from 0 to n - 1.
-/
import Derived.Test.YtnplhpckjcmgmaaDoorAppend
import Derived.Test.YtnplhpckjcmgmaaDoorCut
import Derived.Laws.BitsAllLaws
import Derived.Lib.BufferKept
namespace Go.Proofs.YtnplhpckjcmgmaaDoor
open Go.RowKit Go.Lib
set_option linter.unusedVariables false

def Rd (w : World) (g : Nat) (A : Option Addr) (m c p : Nat) : Prop := w.heap[g]? = some (.cells #[.slice A m c, .int .i64 (p : Int)] 45 (0, 0))

theorem Rd.lt {w : World} {g : Nat} {A : Option Addr} {m c p : Nat} (h : Rd w g A m c p) : g < w.heap.size := Lib.lt_of_heap h
theorem Rd.c0 {w : World} {g : Nat} {A : Option Addr} {m c p : Nat} (h : Rd w g A m c p) : w.cell? ⟨g, 0, none⟩ = some (.slice A m c) := by rw [Lib.cell_of_heap h]; rfl
theorem Rd.c1 {w : World} {g : Nat} {A : Option Addr} {m c p : Nat} (h : Rd w g A m c p) : w.cell? ⟨g, 1, none⟩ = some (.int .i64 (p : Int)) := by rw [Lib.cell_of_heap h]; rfl
theorem Rd.fz {w : World} {g : Nat} {A : Option Addr} {m c p : Nat} (h : Rd w g A m c p) (i : Nat) : w.frozen? ⟨g, i, none⟩ = false := Lib.frozen_of_heap h i
theorem Rd.kept {w w' : World} {g : Nat} {A : Option Addr} {m c p : Nat} {r : Option Nat} (h : Rd w g A m c p) (hg : w.grownBy w' r) (hr : r ≠ some g) : Rd w' g A m c p := (hg.block g h.lt (fun e => hr e.symm)).trans h
theorem Rd.alloc {w : World} {g : Nat} {A : Option Addr} {m c p : Nat} (h : Rd w g A m c p) (o : Obj) : Rd (w.alloc o) g A m c p := (Below.heap_alloc w o g h.lt).trans h

theorem i64_xor (a b : Nat) (ha : a < 4294967296) (hb : b < 4294967296) : bits .xor .i64 (a : Int) (b : Int) = ((a ^^^ b : Nat) : Int) := by
  have hx : a ^^^ b < 2 ^ 32 := Nat.xor_lt_two_pow (by omega) (by omega)
  have h1 : (BitVec.ofInt 64 (a : Int)).toNat = a := by
    rw [BitVec.ofInt_natCast, BitVec.toNat_ofNat]; exact Nat.mod_eq_of_lt (by omega)
  have h2 : (BitVec.ofInt 64 (b : Int)).toNat = b := by
    rw [BitVec.ofInt_natCast, BitVec.toNat_ofNat]; exact Nat.mod_eq_of_lt (by omega)
  show IntKind.i64.wrap ((BitVec.ofInt 64 (a : Int) ^^^ BitVec.ofInt 64 (b : Int)).toNat : Int) = _
  rw [BitVec.toNat_xor, h1, h2]
  exact IntWalk.i64_in _ (by omega)

theorem xor_pos (X : Int) (h0 : 0 ≤ X) (h1 : X ≤ 100000000) : ∃ v : Nat, bits .xor .i64 X (X / 64) = (v : Int) := by
  obtain ⟨a, rfl⟩ := Int.eq_ofNat_of_zero_le h0
  refine ⟨a ^^^ (a / 64), ?_⟩
  rw [show ((a : Int) / 64) = ((a / 64 : Nat) : Int) by omega]
  exact i64_xor a (a / 64) (by omega) (by omega)

theorem RB.grown0 {w w' : World} {A : Option Addr} {n : Nat} {l : List UInt8} (h : RB w A n l) {row : Option Nat} (hg : w.grownBy w' row) (hne : 0 < n → ∀ b o, A = some ⟨b, o, none⟩ → row ≠ some b) : RB w' A n l :=
  ⟨h.1, fun hn => by
    obtain ⟨b, o, e, hb, hc⟩ := h.2 hn
    exact ⟨b, o, e, Nat.lt_of_lt_of_le hb hg.size, fun i c hi => hg.cell (hc i c hi) (fun e' => hne hn b o e e'.symm)⟩⟩

set_option maxHeartbeats 2000000 in
set_option maxRecDepth 100000 in
theorem rdPick (g : Nat) (A : Option Addr) (m c p n : Nat) (l : List UInt8) (w : World) (hR : Rd w g A m c p) (hA : RB w A m l) (hne : 0 < m → ∀ b o, A = some ⟨b, o, none⟩ → b ≠ g) (hp : p ≤ 100000) (hn : 1 ≤ n) (hn2 : n ≤ 100000) (hm : m ≤ 140737488355328) :
    Calls Tryd.prog 25 #[.pointer (some ⟨g, 0, none⟩), .int .i64 (n : Int)] w fun e w' => ∃ v : Nat, e = .returned (.int .i64 (v : Int)) ∧ v < n ∧ Rd w' g A m c (p + 1) ∧ w.grownBy w' (some g) := by
  have c0 := hR.c0
  have c1 := hR.c1
  have z1 := hR.fz 1
  have HR1 : Hid (Rd (w.setCell ⟨g, 1, none⟩ (.int .i64 ((p : Int) + 1))) g A m c (p + 1)) := by
    have := Lib.heap_setCell_same (i := 1) hR (.int .i64 ((p : Int) + 1))
    simpa [Rd, Hid] using this
  have HG : Hid (w.grownBy (w.setCell ⟨g, 1, none⟩ (.int .i64 ((p : Int) + 1))) (some g)) := Lib.grownBy_setCell w g 1 _
  have HA := Lib.hid hA
  have HNE := Lib.hid hne
  have hn1b : decide ((n : Int) < 1) = false := by simp; omega
  clear hA hne hR
  by_cases hm0 : m = 0
  · subst hm0
    have hl : l = [] := List.eq_nil_of_length_eq_zero HA.out.1
    go_enter Tryd.func25, Tryd.ntmps25
    go_wp2_with fail
    go_ret
    exact ⟨0, rfl, by omega, HR1.out, HG.out⟩
  · have hmb : ((m : Int) == 0) = false := by simp; omega
    by_cases hpm : p < m
    · obtain ⟨b, o, cc, rfl, hbs, hcc, hcell⟩ := HA.out.at_ hpm
      have hbg : b ≠ g := HNE.out (by omega) b o rfl
      obtain ⟨x, hx⟩ : ∃ x : Int, (cc.toNat : Int) = x := ⟨_, rfl⟩
      rw [hx] at hcell
      have hx0 : 0 ≤ x := by omega
      have hx1 : x < 256 := by have := cc.toNat_lt; omega
      have hn0 : ((n : Int) == 0) = false := by simp; omega
      have hn1 : ¬ (n : Int) = 0 := by omega
      clear hx hcc
      go_enter Tryd.func25, Tryd.ntmps25
      go_wp2_with fail
      go_ret
      have h1 := Int.emod_nonneg x hn1
      have h2 := Int.emod_lt_of_pos x (show (0 : Int) < (n : Int) by omega)
      exact ⟨(x % (n : Int)).toNat, by rw [Int.toNat_of_nonneg h1]; rfl, by omega, HR1.out, HG.out⟩
    · obtain ⟨b, o, cc, rfl, hbs, hcc, hcell⟩ := HA.out.at_ (k := p % m) (Nat.mod_lt _ (by omega))
      obtain ⟨b', o', cd, he, hbs', hcd, hcell'⟩ := HA.out.at_ (k := (p * 7 + 3) % m) (Nat.mod_lt _ (by omega))
      obtain ⟨rfl, rfl⟩ : b = b' ∧ o = o' := by injection he with he; injection he with h1 h2; exact ⟨h1, h2⟩
      clear he
      have hbg : b ≠ g := HNE.out (by omega) b o rfl
      obtain ⟨x, hx⟩ : ∃ x : Int, (cc.toNat : Int) = x := ⟨_, rfl⟩
      obtain ⟨y, hy⟩ : ∃ y : Int, (cd.toNat : Int) = y := ⟨_, rfl⟩
      rw [hx] at hcell
      rw [hy] at hcell'
      have hx0 : 0 ≤ x := by omega
      have hx1 : x < 256 := by have := cc.toNat_lt; omega
      have hy0 : 0 ≤ y := by omega
      have hy1 : y < 256 := by have := cd.toNat_lt; omega
      clear hx hcc hy hcd
      obtain ⟨i, hi⟩ : ∃ i, p % m = i := ⟨_, rfl⟩
      obtain ⟨j, hj⟩ : ∃ j, (p * 7 + 3) % m = j := ⟨_, rfl⟩
      obtain ⟨q, hq⟩ : ∃ q, p / m = q := ⟨_, rfl⟩
      have t1 : (p : Int).tmod (m : Int) = (i : Int) := by rw [Int.tmod_eq_emod_of_nonneg (by omega), ← hi]; rfl
      have t3 : ((p : Int) * 7 + 3).tmod (m : Int) = (j : Int) := by rw [Int.tmod_eq_emod_of_nonneg (by omega), ← hj]; rfl
      have t4 : (p : Int).tdiv (m : Int) = (q : Int) := by rw [Int.tdiv_eq_ediv_of_nonneg (by omega), ← hq]; rfl
      have hil : i < m := by rw [← hi]; exact Nat.mod_lt _ (by omega)
      have hjl : j < m := by rw [← hj]; exact Nat.mod_lt _ (by omega)
      have hql : q ≤ 100000 := by rw [← hq]; exact Nat.le_trans (Nat.div_le_self _ _) hp
      rw [hi] at hcell
      rw [hj] at hcell'
      clear hi hj hq
      have hi0 : (0 : Int) ≤ (i : Int) := by omega
      have hi1 : (i : Int) < (m : Int) := by omega
      have hj0 : (0 : Int) ≤ (j : Int) := by omega
      have hj1 : (j : Int) < (m : Int) := by omega
      have hm1 : ¬ (m : Int) = 0 := by omega
      have a0 : IntKind.i64.wrap (i : Int) = (i : Int) := IntWalk.i64_in _ (by omega)
      have a1 : IntKind.i64.wrap ((p : Int) * 7) = (p : Int) * 7 := IntWalk.i64_in _ (by omega)
      have a2 : IntKind.i64.wrap ((p : Int) * 7 + 3) = (p : Int) * 7 + 3 := IntWalk.i64_in _ (by omega)
      have a3 : IntKind.i64.wrap (j : Int) = (j : Int) := IntWalk.i64_in _ (by omega)
      have a4 : IntKind.i64.wrap (x * 131) = x * 131 := IntWalk.i64_in _ (by omega)
      have a5 : IntKind.i64.wrap (y * 1117) = y * 1117 := IntWalk.i64_in _ (by omega)
      have a6 : IntKind.i64.wrap (x * 131 + y * 1117) = x * 131 + y * 1117 := IntWalk.i64_in _ (by omega)
      have a7 : IntKind.i64.wrap ((p : Int) * 29) = (p : Int) * 29 := IntWalk.i64_in _ (by omega)
      have a8 : IntKind.i64.wrap (x * 131 + y * 1117 + (p : Int) * 29) = x * 131 + y * 1117 + (p : Int) * 29 := IntWalk.i64_in _ (by omega)
      have a9 : IntKind.i64.wrap (q : Int) = (q : Int) := IntWalk.i64_in _ (by omega)
      have b1 : IntKind.i64.wrap ((q : Int) * 53) = (q : Int) * 53 := IntWalk.i64_in _ (by omega)
      have b2 : IntKind.i64.wrap (x * 131 + y * 1117 + (p : Int) * 29 + (q : Int) * 53) = x * 131 + y * 1117 + (p : Int) * 29 + (q : Int) * 53 := IntWalk.i64_in _ (by omega)
      have b3 : IntKind.i64.wrap x = x := IntWalk.i64_in _ (by omega)
      have b4 : IntKind.i64.wrap y = y := IntWalk.i64_in _ (by omega)
      have XB : Hid (0 ≤ x * 131 + y * 1117 + (p : Int) * 29 + (q : Int) * 53 ∧ x * 131 + y * 1117 + (p : Int) * 29 + (q : Int) * 53 ≤ 100000000) := by simp only [Hid]; omega
      go_enter Tryd.func25, Tryd.ntmps25
      go_wp2_with fail
      go_quiet (fail)
      clear a0 a1 a2 a3 a4 a5 a6 a7 a8 a9 b1 b2 b3 b4 t1 t3 t4
      generalize x * 131 + y * 1117 + (p : Int) * 29 + (q : Int) * 53 = X at XB ⊢
      obtain ⟨X0, X1⟩ := XB.out
      obtain ⟨v, hv⟩ := xor_pos X X0 X1
      go_wp2_with fail
      go_ret
      have h3 : ((v : Int)).tmod (n : Int) = ((v % n : Nat) : Int) := by rw [Int.tmod_eq_emod_of_nonneg (by omega)]; rfl
      exact ⟨v % n, ret_int h3, Nat.mod_lt _ (by omega), HR1.out, ⟨HG.out.os, HG.out.tape, HG.out.output, HG.out.size, HG.out.block⟩⟩

/-- A step that writes g, and then a row of the call's own. -/
theorem grow_app {w0 w1 w2 : World} {g : Nat} {r : Option Nat} (h : w0.grownBy w1 (some g)) (h2 : w1.grownBy w2 r) (hr : ∀ y, r = some y → w0.heap.size ≤ y ∨ y = g) : w0.grownBy w2 (some g) :=
  ⟨h2.os.trans h.os, h2.tape.trans h.tape, h2.output.trans h.output, Nat.le_trans h.size h2.size, fun k hk hne => by
    rw [h2.block k (Nat.lt_of_lt_of_le hk h.size) (fun e => by
      rcases hr k e.symm with h3 | h3
      · omega
      · exact hne (by rw [h3])), h.block k hk hne]⟩

theorem grow_alloc {w0 w1 : World} {g : Nat} (h : w0.grownBy w1 (some g)) (o : Obj) : w0.grownBy (w1.alloc o) (some g) :=
  ⟨h.os, h.tape, h.output, by have := h.size; simp; omega, fun k hk hne => by rw [Below.heap_alloc w1 o k (Nat.lt_of_lt_of_le hk h.size), h.block k hk hne]⟩

theorem own_row {w0 w : World} {A : Option Addr} {n c : Nat} {l : List UInt8} (h : OB w w0.heap.size A n c l) : ∀ y, A.map (·.block) = some y → w0.heap.size ≤ y := by
  intro y hy
  cases A with
  | none => cases hy
  | some x =>
    have hs := h.spot x rfl
    obtain ⟨b, o, sp⟩ := x
    simp only at hs
    subst hs
    have := (h.block b o rfl).1
    simp at hy
    omega

end Go.Proofs.YtnplhpckjcmgmaaDoor
