/-
  The state of a walk through the dumper: what the sink holds, the dumper's cells, what lay below.
-/
import Derived.Test.YtkhoifaakidfcaaEncSelf
import Derived.Test.YtkhoifaakidfcaaCut
namespace Go.Proofs.Ytkhoifaakidfcaa
open Go.RowKit Go.Lib
set_option linter.unusedVariables false

def Stt (S : List UInt8 → World → Prop) (w0 : World) (d : Nat) (x : List UInt8) (f : Nat → Value) (w : World) : Prop := S x w ∧ w.rowIs d 66 36 f ∧ Below w0.heap.size w0 w
def upd (f : Nat → Value) (i : Nat) (v : Value) : Nat → Value := fun j => if j = i then v else f j
/-- Alike but for the dumper's buffer. -/
def Alk (f g : Nat → Value) : Prop := ∀ j, j < 19 ∨ 33 ≤ j → g j = f j

theorem Alk.refl (f : Nat → Value) : Alk f f := fun _ _ => rfl
theorem Alk.upd {f g : Nat → Value} (h : Alk f g) (i : Nat) (hi : 19 ≤ i) (hi2 : i < 33) (v : Value) : Alk f (upd g i v) := fun j hj => by
  unfold Go.Proofs.Ytkhoifaakidfcaa.upd
  rw [if_neg (by omega)]
  exact h j hj
theorem Alk.row {f g : Nat → Value} (h : Alk f g) (od : Nat) (l : List UInt8) (k : Nat) (h1 : 19 ≤ od) (h2 : od + 2 * k ≤ 33) : Alk f (Hx.row g od l k) := fun j hj => by
  unfold Hx.row
  rw [if_neg (by omega)]
  exact h j hj

section
variable {T F b d : Nat} {w0 w w' : World} {S : List UInt8 → World → Prop} {x : List UInt8} {f f' : Nat → Value}

theorem Stt.cell (h : Stt S w0 d x f w) (i : Nat) (hi : i < 36) : w.cell? ⟨d, i, none⟩ = some (f i) := h.2.1.cell hi
theorem Stt.fz (h : Stt S w0 d x f w) (i : Nat) : w.frozen? ⟨d, i, none⟩ = false := h.2.1.frozen _
theorem Stt.size (h : Stt S w0 d x f w) : w0.heap.size ≤ w.heap.size := h.2.2.size

theorem Stt.drew (hS : IsSink T F b w0.heap.size S) (h : Stt S w0 d x f w) : Stt S w0 d x f w.drew := ⟨hS.drew _ _ h.1, h.2.1.drew, h.2.2.drew⟩
theorem Stt.drewN (hS : IsSink T F b w0.heap.size S) (h : Stt S w0 d x f w) (k : Nat) : Stt S w0 d x f (w.drewN k) := ⟨hS.drewN _ _ k h.1, h.2.1, below_drewN h.2.2 k⟩

theorem Stt.enc (hS : IsSink T F b w0.heap.size S) (hd : w0.heap.size ≤ d) (hdb : d ≠ b) (h : Stt S w0 d x f w) (hg : w.grownBy w' (some d)) (hr : w'.rowIs d 66 36 f') : Stt S w0 d x f' w' :=
  ⟨hS.keep _ d w w' h.1 hg hdb (rowIs_not h.2.1 (by decide)), hr, h.2.2.grown hg h.2.2.size (fun k hk => by cases hk; exact hd)⟩

theorem Stt.set (hS : IsSink T F b w0.heap.size S) (hd : w0.heap.size ≤ d) (hdb : d ≠ b) (h : Stt S w0 d x f w) (i : Nat) (v : Value) : Stt S w0 d x (upd f i v) (w.setCell ⟨d, i, none⟩ v) :=
  h.enc hS hd hdb (Lib.grownBy_setCell w d i v) (h.2.1.set i v)

theorem Stt.write (hS : IsSink T F b w0.heap.size S) (hdb : d ≠ b) (h : Stt S w0 d x f w) (od n c : Nat) (news : List UInt8) (hl : news.length = n) (hf : ∀ i c, news[i]? = some c → f (od + i) = .int .u8 (c.toNat : Int)) (hN : od + n ≤ 36) (hlen : x.length + n ≤ 140737488355328) :
    Calls Try.prog F #[.pointer (some ⟨b, 0, none⟩), .slice (some ⟨d, od, none⟩) n c] w fun e w' => e = .returned (.tuple #[.int .i64 n, .nilIface]) ∧ Stt S w0 d (x ++ news) f w' := by
  have hrb : RB w (some ⟨d, od, none⟩) n news := ⟨hl, fun hn => ⟨d, od, rfl, h.2.1.lt, fun i c hi => by
    have hi' := (List.getElem?_eq_some_iff.1 hi).1
    rw [h.2.1.cell (by omega), hf i c hi]⟩⟩
  refine (hS.write x news d od n c w h.1 h.size hrb hdb (rowIs_not h.2.1 (by decide)) hlen).mono ?_
  rintro e w' ⟨he, hs, hb, hk⟩
  exact ⟨he, hs, rowIs_kept h.2.1 (by decide) hk hdb, h.2.2.trans hb⟩
end

/-- Block d is a dumper that writes to the sink at block b and has taken the bytes acc. -/
def Fld (T b : Nat) (acc : List UInt8) (f : Nat → Value) : Prop :=
  f 0 = .iface T (.pointer (some ⟨b, 0, none⟩)) ∧ f 33 = .int .i64 ((acc.length % 16 : Nat) : Int) ∧ f 34 = .int .u64 (acc.length : Int) ∧ f 35 = .bool false ∧
    ∀ i c, (Dm.cur acc)[i]? = some c → f (1 + i) = .int .u8 ((Dm.toCh c).toNat : Int)

theorem row1_at (g : Nat → Value) (cc : UInt8) (i : Nat) (x : UInt8) (h : (Hx.encode [cc])[i]? = some x) : Hx.row g 19 [cc] 1 (19 + i) = .int .u8 (x.toNat : Int) := by
  have hi := (List.getElem?_eq_some_iff.1 h).1
  rw [Hx.encode_length] at hi
  unfold Hx.row
  rw [if_pos ⟨by omega, by simp at hi; omega⟩, Nat.add_sub_cancel_left, h]
  rfl

/-- What is written of a byte: its digits, and what is behind them in the buffer. -/
theorem byte_cells (g : Nat → Value) (cc : UInt8) (t : List UInt8) (ht : ∀ i x, t[i]? = some x → g (21 + i) = .int .u8 (x.toNat : Int)) (h19 : ∀ i x, (Hx.encode [cc])[i]? = some x → g (19 + i) = .int .u8 (x.toNat : Int)) :
    ∀ i x, (Hx.encode [cc] ++ t)[i]? = some x → g (19 + i) = .int .u8 (x.toNat : Int) := by
  intro i x hi
  have hl : (Hx.encode [cc]).length = 2 := by rw [Hx.encode_length]; rfl
  rcases Nat.lt_or_ge i 2 with h | h
  · rw [List.getElem?_append_left (by omega)] at hi
    exact h19 i x hi
  · rw [List.getElem?_append_right (by omega), hl] at hi
    have := ht (i - 2) x hi
    rwa [show 21 + (i - 2) = 19 + i by omega] at this

end Go.Proofs.Ytkhoifaakidfcaa
