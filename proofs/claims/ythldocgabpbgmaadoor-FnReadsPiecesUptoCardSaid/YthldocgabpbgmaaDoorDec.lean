/-
  What a world holds of the pieces and of a decoder over them; what a call leaves alone; Read of the pieces in these words.
-/
import Derived.Test.YthldocgabpbgmaaDoorPieces
import Derived.Test.YthldocgabpbgmaaDoorParts
namespace Go.Proofs.YthldocgabpbgmaaDoor
open Go.RowKit Go.Lib
set_option linter.unusedVariables false

/-- All blocks that were there stand, but those of S. -/
structure Chg (S : Nat → Prop) (w w' : World) : Prop where
  os : w'.os = w.os
  tape : w'.tape = w.tape
  output : w'.output = w.output
  size : w.heap.size ≤ w'.heap.size
  block : ∀ i, i < w.heap.size → ¬ S i → w'.heap[i]? = w.heap[i]?

section
variable {S R : Nat → Prop} {w w' w1 w2 : World}
theorem Chg.refl (S : Nat → Prop) (w : World) : Chg S w w := ⟨rfl, rfl, rfl, Nat.le_refl _, fun _ _ _ => rfl⟩
theorem Chg.trans (h : Chg S w w1) (k : Chg S w1 w2) : Chg S w w2 :=
  ⟨k.os.trans h.os, k.tape.trans h.tape, k.output.trans h.output, Nat.le_trans h.size k.size, fun i hi hs => (k.block i (Nat.lt_of_lt_of_le hi h.size) hs).trans (h.block i hi hs)⟩
theorem Chg.mono (h : Chg S w w') (hS : ∀ i, S i → R i) : Chg R w w' := ⟨h.os, h.tape, h.output, h.size, fun i hi hr => h.block i hi (fun hs => hr (hS i hs))⟩
theorem Chg.drew (h : Chg S w w') : Chg S w w'.drew := ⟨h.os, h.tape, h.output, h.size, h.block⟩
theorem Chg.drewN (h : Chg S w w') (k : Nat) : Chg S w (w'.drewN k) := ⟨h.os, h.tape, h.output, h.size, h.block⟩
theorem Chg.ofDrew (h : Chg S w.drew w') : Chg S w w' := ⟨h.os, h.tape, h.output, h.size, h.block⟩
theorem Chg.grown {row : Option Nat} (h : w.grownBy w' row) (hr : ∀ k, row = some k → S k) : Chg S w w' :=
  ⟨h.os, h.tape, h.output, h.size, fun i hi hs => h.block i hi (fun e => hs (hr i e.symm))⟩
theorem Chg.set (h : Chg S w w') {p : Addr} (hp : S p.block) (v : Value) : Chg S w (w'.setCell p v) :=
  ⟨h.os, h.tape, h.output, by simpa [World.setCell] using h.size, fun i hi hs => (Below.heap_setCell _ _ _ _ (by rintro rfl; exact hs hp)).trans (h.block i hi hs)⟩
theorem Chg.alloc (h : Chg S w w') (o : Obj) : Chg S w (w'.alloc o) :=
  ⟨h.os, h.tape, h.output, by have := h.size; simp; omega, fun i hi hs => (Below.heap_alloc _ _ _ (Nat.lt_of_lt_of_le hi h.size)).trans (h.block i hi hs)⟩
theorem Chg.below {B : Nat} (h : Chg S w w') (hS : ∀ i, S i → B ≤ i) (hB : B ≤ w.heap.size) : Below B w w' :=
  ⟨h.os, h.tape, h.output, h.size, fun i hi => h.block i (by omega) (fun hs => by have := hS i hs; omega)⟩
theorem Chg.cell (h : Chg S w w') {p : Addr} {v : Value} (hc : w.cell? p = some v) (hn : ¬ S p.block) : w'.cell? p = some v :=
  (World.cell?_of_block (h.block _ (World.block_lt_of_cell? w p hc) hn)).trans hc
theorem Chg.rb {A : Option Addr} {n : Nat} {l : List UInt8} (h : Chg S w w') (hr : RB w A n l) (hn : ∀ b o, A = some ⟨b, o, none⟩ → ¬ S b) : RB w' A n l :=
  ⟨hr.1, fun hp => by
    obtain ⟨b, o, e, hb, hc⟩ := hr.2 hp
    exact ⟨b, o, e, Nat.lt_of_lt_of_le hb h.size, fun i c hi => h.cell (hc i c hi) (hn b o e)⟩⟩
theorem Chg.row {T N b : Nat} {f : Nat → Value} (h : Chg S w w') (hr : w.rowIs b T N f) (hn : ¬ S b) : w'.rowIs b T N f := hr.of_block (h.block b hr.lt hn)
theorem Chg.err {a b : Addr} (h : Chg S w w') (hE : ErrAt w a b) (h0 : ¬ S 0) (h1 : ¬ S 1) (ha : ¬ S a.block) (hb : ¬ S b.block) : ErrAt w' a b := by
  obtain ⟨⟨e1, s, e2, e3⟩, ⟨k1, t, k2, k3⟩, ⟨c1, t1, m1⟩, c2, t2, m2⟩ := hE
  exact ⟨⟨h.cell e1 h0, s, h.cell e2 ha, e3⟩, ⟨h.cell k1 h1, t, h.cell k2 hb, k3⟩, ⟨c1, t1, (h.block _ (World.block_lt_of_cell? w _ e2) ha).trans m1⟩, c2, t2, (h.block _ (World.block_lt_of_cell? w _ k2) hb).trans m2⟩
end

/-- The slice lies in a block of bytes ahead of block p. -/
def Src (w : World) (p : Nat) (A : Option Addr) : Prop := ∀ b o, A = some ⟨b, o, none⟩ → b < p ∧ ∃ cs fz, w.heap[b]? = some (.cells cs 5 fz)

/-- Block p hands out l in pieces of pc bytes. -/
def Pcs (w : World) (p pc : Nat) (l : List UInt8) : Prop :=
  ∃ (f : Nat → Value) (A : Option Addr) (n c : Nat), w.rowIs p 44 2 f ∧ f 0 = .slice A n c ∧ f 1 = .int .i64 (pc : Int) ∧ RB w A n l ∧ n ≤ c ∧ c ≤ 9223372036854775807 ∧ Src w p A

theorem Pcs.lt {w : World} {p pc : Nat} {l : List UInt8} (h : Pcs w p pc l) : p < w.heap.size := by
  obtain ⟨f, A, n, c, hr, _⟩ := h
  exact hr.lt

theorem Src.kept {S : Nat → Prop} {w w' : World} {p : Nat} {A : Option Addr} (h : Src w p A) (hg : Chg S w w') (hn : ∀ b o, A = some ⟨b, o, none⟩ → ¬ S b) : Src w' p A := by
  intro b o e
  obtain ⟨h1, cs, fz, h2⟩ := h b o e
  exact ⟨h1, cs, fz, (hg.block b (Array.getElem?_eq_some_iff.1 h2).1 (hn b o e)).trans h2⟩

/-- Pieces stay, where the blocks that are written are other ones. -/
theorem Pcs.kept {S : Nat → Prop} {w w' : World} {p pc : Nat} {l : List UInt8} (h : Pcs w p pc l) (hg : Chg S w w') (hp : ¬ S p) (hn : ∀ b, b < p → (∃ cs fz, w.heap[b]? = some (.cells cs 5 fz)) → ¬ S b) : Pcs w' p pc l := by
  obtain ⟨f, A, n, c, h1, h2, h3, h4, h5, h6, h7⟩ := h
  have hs : ∀ b o, A = some ⟨b, o, none⟩ → ¬ S b := fun b o e => hn b (h7 b o e).1 (h7 b o e).2
  exact ⟨f, A, n, c, hg.row h1 hp, h2, h3, hg.rb h4 hs, h5, h6, h7.kept hg hs⟩

theorem cutA_some {A : Option Addr} {c k b o : Nat} (hs : ∀ x, A = some x → x.spot = none) (h : cutA A c k = some ⟨b, o, none⟩) : ∃ o', A = some ⟨b, o', none⟩ := by
  unfold cutA at h
  split at h
  · exact ⟨o, h⟩
  · cases A with
    | none => cases h
    | some x =>
      obtain ⟨b', o', sp⟩ := x
      have := hs _ rfl
      simp only at this
      subst this
      simp only [Option.map_some, Option.some.injEq] at h
      unfold Addr.add at h
      split at h
      · injection h with h1 h2; subst h1; exact ⟨o', rfl⟩
      · injection h with h1 h2; subst h1; exact ⟨o', rfl⟩

/-- Read of pieces that have come to their end. -/
theorem pcsEnd (a b : Addr) (p pc : Nat) (D : Option Addr) (dl dc : Nat) (w : World) (hP : Pcs w p pc []) (hE : ErrAt w a b) :
    Calls Tryd.prog 33 #[.pointer (some ⟨p, 0, none⟩), .slice D dl dc] w fun e w' => e = .returned (.tuple #[.int .i64 0, errV a b (some .ok)]) ∧ w' = w.drew := by
  obtain ⟨f, A, n, c, h1, h2, h3, h4, h5, h6, h7⟩ := hP
  obtain rfl : n = 0 := h4.1.symm
  exact piecesEnd a b p f A c D dl dc w h1 h2 hE

/-- Read of pieces that have bytes to hand out. -/
theorem pcsSome (T : TypeId) (p d o N dl dc k pc : Nat) (g : Nat → Value) (l : List UInt8) (w : World) (hP : Pcs w p pc l) (hn : 0 < l.length) (hpc : pc ≤ 9223372036854775807) (hd : w.rowIs d T N g) (hpd : p < d) (hk : k = min (min pc l.length) dl) (hfit : o + k ≤ N) :
    Calls Tryd.prog 33 #[.pointer (some ⟨p, 0, none⟩), .slice (some ⟨d, o, none⟩) dl dc] w fun e w' => e = .returned (.tuple #[.int .i64 (k : Int), .nilIface]) ∧ Pcs w' p pc (l.drop k) ∧ w'.rowIs d T N (Hx.rowP g o (l.take k)) ∧ Chg (fun i => i = p ∨ i = d) w w' := by
  obtain ⟨f, A, n, c, h1, h2, h3, h4, h5, h6, h7⟩ := hP
  have hl := h4.1
  refine (piecesSome T p d o N dl dc n c k pc f g A l w h1 h2 h3 h4 (by omega) h5 h6 hpc hd (by omega) (by rw [hk, hl]) hfit).mono ?_
  rintro e w' ⟨rfl, w1, hr1, hg1, rfl⟩
  have hc1 : Chg (fun i => i = p ∨ i = d) w w1 := Chg.grown hg1 (fun k hk => by injection hk with hk; exact .inr hk.symm)
  have hc2 : Chg (fun i => i = p ∨ i = d) w (w1.setCell ⟨p, 0, none⟩ (.slice (cutA A c k) (n - k) (c - k))) := hc1.set (p := ⟨p, 0, none⟩) (.inl rfl) _
  have hsp : ∀ b o, A = some ⟨b, o, none⟩ → ¬ (b = p ∨ b = d) := fun b o e => by have := (h7 b o e).1; omega
  obtain ⟨b0, o0, eA, _⟩ := h4.2 (by omega)
  refine ⟨rfl, ⟨_, cutA A c k, n - k, c - k, (World.rowIs.of_block h1 (hg1.block p h1.lt (by simp; omega))).set 0 _, by simp, by simp [h3], (hc2.rb h4 hsp).from_ (by omega) h5, by omega, by omega, ?_⟩, hr1.setOther (by simp; omega) _, hc2⟩
  intro b o e
  obtain ⟨o', e'⟩ := cutA_some (fun x hx => by rw [eA] at hx; cases hx; rfl) e
  exact (h7.kept hc2 hsp) b o' e'

/-- Block d is a decoder over the pieces at block p, in state s. -/
def Dec (w : World) (a b : Addr) (p d pc : Nat) (s : Hex.St) : Prop :=
  p < d ∧ Pcs w p pc s.rest ∧ ∃ (g : Nat → Value) (X : Option Addr) (m k o : Nat), w.rowIs d 54 1027 g ∧ g 0 = .iface 41 (.pointer (some ⟨p, 0, none⟩)) ∧ g 1 = errV a b s.e ∧ g 2 = .slice X m k ∧
    s.inn.length = m ∧ m ≤ k ∧ o + k ≤ 1024 ∧ (0 < m → X = some ⟨d, 3 + o, none⟩) ∧ ∀ i c, s.inn[i]? = some c → g (3 + o + i) = .int .u8 (c.toNat : Int)

theorem sliced_row {w : World} {d T N od n : Nat} {f : Nat → Value} {l : List UInt8} (hl : l.length = n) (h : w.rowIs d T N f) (hf : ∀ i c, l[i]? = some c → f (od + i) = .int .u8 (c.toNat : Int)) (hN : od + n ≤ N) (X : Option Addr) (hX : 0 < n → X = some ⟨d, od, none⟩) : RB w X n l :=
  ⟨hl, fun hn => ⟨d, od, hX hn, h.lt, fun i c hi => by
    have hi' := (List.getElem?_eq_some_iff.1 hi).1
    rw [h.cell (by omega), hf i c hi]⟩⟩

/-- A decoder stays, where the blocks that are written are other ones. -/
theorem Dec.kept {S : Nat → Prop} {w w' : World} {a b : Addr} {p d pc : Nat} {s : Hex.St} (h : Dec w a b p d pc s) (hg : Chg S w w') (hd : ¬ S d) (hp : ¬ S p) (hn : ∀ b, b < p → (∃ cs fz, w.heap[b]? = some (.cells cs 5 fz)) → ¬ S b) : Dec w' a b p d pc s := by
  obtain ⟨h1, h2, g, X, m, k, o, h3, h4⟩ := h
  exact ⟨h1, h2.kept hg hp hn, g, X, m, k, o, hg.row h3 hd, h4⟩

theorem Dec.drew {w : World} {a b : Addr} {p d pc : Nat} {s : Hex.St} (h : Dec w a b p d pc s) : Dec w.drew a b p d pc s := h.kept (S := fun _ => False) (Chg.refl _ w).drew (fun h => h) (fun h => h) (fun _ _ _ h => h)

theorem Dec.drewN {w : World} {a b : Addr} {p d pc : Nat} {s : Hex.St} (h : Dec w a b p d pc s) (k : Nat) : Dec (w.drewN k) a b p d pc s := h.kept (S := fun _ => False) ((Chg.refl _ w).drewN k) (fun h => h) (fun h => h) (fun _ _ _ h => h)

theorem run_arr (d : Nat) (w : World) : (Instr.sliceAt 52 (.pointer (some ⟨d, 3, none⟩)) none none none).run Tryd.prog w = .ok (.slice (some ⟨d, 3, none⟩) 1024 1024) w := by
  have ea : Tryd.prog.arrayLen 52 = 1024 := by kernel_rfl
  have es : (sizeOf (Tryd.prog.elem 52)).run Tryd.prog w = .ok 1 w := by kernel_rfl
  rw [run_sliceAt_array_all (P := Tryd.prog) w 52 ⟨d, 3, none⟩ (by kernel_rfl), es, ea]
  simp [slicedAt, Addr.add]
theorem run_arr_to (d : Nat) (k : Int) (h0 : 0 ≤ k) (h1 : k ≤ 1024) (w : World) :
    (Instr.sliceAt 52 (.pointer (some ⟨d, 3, none⟩)) none (some (.int .i64 k)) none).run Tryd.prog w = .ok (.slice (some ⟨d, 3, none⟩) k.toNat 1024) w := by
  have ea : Tryd.prog.arrayLen 52 = 1024 := by kernel_rfl
  have es : (sizeOf (Tryd.prog.elem 52)).run Tryd.prog w = .ok 1 w := by kernel_rfl
  rw [run_sliceAt_array_h (P := Tryd.prog) w 52 ⟨d, 3, none⟩ (by kernel_rfl) .i64 k h0 (by rw [ea]; omega), es, ea]
  simp [slicedAt, Addr.add]
theorem run_arr_from (d : Nat) (k : Int) (h0 : 0 ≤ k) (h1 : k < 1024) (w : World) :
    (Instr.sliceAt 52 (.pointer (some ⟨d, 3, none⟩)) (some (.int .i64 k)) none none).run Tryd.prog w = .ok (.slice (some ⟨d, 3 + k.toNat, none⟩) (1024 - k.toNat) (1024 - k.toNat)) w := by
  have ea : Tryd.prog.arrayLen 52 = 1024 := by kernel_rfl
  have es : (sizeOf (Tryd.prog.elem 52)).run Tryd.prog w = .ok 1 w := by kernel_rfl
  rw [run_sliceAt_array_l (P := Tryd.prog) w 52 ⟨d, 3, none⟩ (by kernel_rfl) .i64 k h0 (by rw [ea]; omega), es, ea]
  simp only [Result.andThen_ok, slicedAt, Nat.mul_one]
  rw [if_neg (by omega), add_at]

theorem methRead (p : Nat) (w : World) : (method 187 41 (.pointer (some ⟨p, 0, none⟩)) "Read").run Tryd.prog w = .ok (33, .pointer (some ⟨p, 0, none⟩)) w := by kernel_rfl
theorem methDec (d : Nat) (w : World) : (method 187 51 (.pointer (some ⟨d, 0, none⟩)) "Read").run Tryd.prog w = .ok (34, .pointer (some ⟨d, 0, none⟩)) w := by kernel_rfl

/-- The end that a read tells. -/
def told (s : Hex.St) : Option Hx.Out := if s.inn.length < 2 then s.e else none
theorem num_told (s : Hex.St) : Hex.num (told s) = Hex.code s := by unfold told Hex.code; split <;> rfl

end Go.Proofs.YthldocgabpbgmaaDoor
