/-
  Plain facts on the dump of bytes: lists alone, no program in sight. 'outL a': what has been written when the bytes a have been taken; 'dumpL a': the whole dump.
-/
import Derived.Test.YtkhoifaakidfcaaPure
namespace Go.Proofs.Ytkhoifaakidfcaa.Dm
open Go.Lib Go.Lib.Hx
set_option linter.unusedVariables false

def toCh (c : UInt8) : UInt8 := if c.toNat < 32 ∨ 126 < c.toNat then 46 else c
/-- Eight digits of a number, in 32 bits. -/
def adr (n : Nat) : List UInt8 := encode [UInt8.ofNat (n / 16777216), UInt8.ofNat (n / 65536), UInt8.ofNat (n / 256), UInt8.ofNat n]
def seg (i : Nat) (c : UInt8) : List UInt8 := (if i % 8 = 0 then [32] else []) ++ encode [c] ++ [32]
def segs : Nat → List UInt8 → List UInt8
  | _, [] => []
  | i, c :: t => seg i c ++ segs (i + 1) t
def pad (u : Nat) : List UInt8 := (List.range (16 - u)).flatMap fun j => (if (u + j) % 8 = 0 then [32] else []) ++ [32, 32, 32]
def line (n : Nat) (d : List UInt8) : List UInt8 := adr n ++ [32] ++ segs 0 d ++ pad d.length ++ [32, 124] ++ d.map toCh ++ [124, 10]
def chunk (a : List UInt8) (r : Nat) : List UInt8 := (a.drop (16 * r)).take 16
def full (a : List UInt8) (q : Nat) : List UInt8 := (List.range q).flatMap fun r => line (16 * r) (chunk a r)
def preD (n : Nat) (d : List UInt8) : List UInt8 := if d = [] then [] else adr n ++ [32] ++ segs 0 d ++ (if d.length = 8 then [32] else [])
/-- What is begun of a line. -/
def cur (a : List UInt8) : List UInt8 := a.drop (16 * (a.length / 16))
def outL (a : List UInt8) : List UInt8 := full a (a.length / 16) ++ preD (16 * (a.length / 16)) (cur a)
def dumpL (a : List UInt8) : List UInt8 := full a (a.length / 16) ++ (if a.length % 16 = 0 then [] else line (16 * (a.length / 16)) (cur a))
/-- What a byte adds in its place u of the line. -/
def tail1 (u : Nat) : List UInt8 := if u = 7 then [32] else if u = 15 then [32, 124] else []
def pc (v : Nat) : List UInt8 := [32, 32, 32] ++ tail1 v
def padC (u v : Nat) : List UInt8 := (List.range (v - u)).flatMap fun j => pc (u + j)

theorem cur_len (a : List UInt8) : (cur a).length = a.length % 16 := by
  unfold cur
  rw [List.length_drop]
  omega

theorem segs_snoc (d : List UInt8) (c : UInt8) : ∀ i, segs i (d ++ [c]) = segs i d ++ seg (i + d.length) c := by
  induction d with
  | nil => intro i; simp [segs]
  | cons x t ih =>
    intro i
    simp only [List.cons_append, segs, ih, List.length_cons, List.append_assoc]
    rw [show i + 1 + t.length = i + (t.length + 1) by omega]

theorem chunk_app (a : List UInt8) (c : UInt8) (r : Nat) (h : 16 * (r + 1) ≤ a.length) : chunk (a ++ [c]) r = chunk a r := by
  unfold chunk
  rw [List.drop_append_of_le_length (by omega), List.take_append_of_le_length (by rw [List.length_drop]; omega)]

theorem full_app (a : List UInt8) (c : UInt8) (q : Nat) (h : 16 * q ≤ a.length) : full (a ++ [c]) q = full a q := by
  unfold full
  induction q with
  | zero => rfl
  | succ q ih =>
    rw [List.range_succ, List.flatMap_append, List.flatMap_append, ih (by omega)]
    simp only [List.flatMap_cons, List.flatMap_nil]
    rw [chunk_app a c q (by omega)]

theorem pad16 : pad 16 = [] := rfl

theorem step (a : List UInt8) (c : UInt8) :
    outL (a ++ [c]) = outL a ++ (if a.length % 16 = 0 then adr a.length ++ [32, 32] else []) ++ (encode [c] ++ [32] ++ tail1 (a.length % 16)) ++ (if a.length % 16 = 15 then (cur a ++ [c]).map toCh ++ [124, 10] else []) := by
  have hl := cur_len a
  have hq : 16 * (a.length / 16) ≤ a.length := by omega
  by_cases h15 : a.length % 16 = 15
  · have e1 : (a ++ [c]).length / 16 = a.length / 16 + 1 := by rw [List.length_append]; simp; omega
    have e2 : cur (a ++ [c]) = [] := by
      apply List.eq_nil_of_length_eq_zero
      rw [cur_len, List.length_append]; simp; omega
    have e3 : chunk (a ++ [c]) (a.length / 16) = cur a ++ [c] := by
      unfold chunk cur
      rw [List.drop_append_of_le_length hq, List.take_of_length_le]
      rw [List.length_append, List.length_drop]; simp; omega
    have hne : cur a ≠ [] := fun e => by rw [e] at hl; simp at hl; omega
    unfold outL
    rw [e1, e2]
    have e4 : full (a ++ [c]) (a.length / 16 + 1) = full a (a.length / 16) ++ line (16 * (a.length / 16)) (cur a ++ [c]) := by
      rw [← full_app a c _ hq, ← e3]
      unfold full
      rw [List.range_succ, List.flatMap_append]
      simp
    rw [e4]
    unfold preD line
    rw [if_pos rfl, if_neg hne, if_neg (by omega), if_pos h15, h15, segs_snoc, hl, h15]
    have e5 : (cur a ++ [c]).length = 16 := by rw [List.length_append, hl]; simp; omega
    have e6 : (cur a).length ≠ 8 := by omega
    rw [e5, pad16]
    simp [seg, tail1]
  · have e1 : (a ++ [c]).length / 16 = a.length / 16 := by rw [List.length_append]; simp; omega
    have e2 : cur (a ++ [c]) = cur a ++ [c] := by
      unfold cur
      rw [e1, List.drop_append_of_le_length hq]
    unfold outL
    rw [e1, e2, full_app a c _ hq, if_neg h15]
    have e7 : preD (16 * (a.length / 16)) (cur a ++ [c]) = adr (16 * (a.length / 16)) ++ [32] ++ segs 0 (cur a ++ [c]) ++ (if a.length % 16 = 7 then [32] else []) := by
      unfold preD
      rw [if_neg (by simp), List.length_append, hl]
      congr 1
      by_cases h : a.length % 16 = 7 <;> simp [h]
    rw [e7, segs_snoc, hl]
    by_cases h0 : a.length % 16 = 0
    · have hc : cur a = [] := List.eq_nil_of_length_eq_zero (by rw [hl, h0])
      have e8 : 16 * (a.length / 16) = a.length := by omega
      rw [hc, h0, e8]
      simp [preD, segs, seg, tail1]
    · have hne : cur a ≠ [] := fun e => by rw [e] at hl; simp at hl; omega
      unfold preD
      rw [if_neg h0, if_neg hne, hl]
      unfold seg tail1
      rw [if_neg h15]
      simp only [Nat.zero_add]
      by_cases h8 : a.length % 16 = 8
      · rw [h8]; simp
      · rw [if_neg (show ¬ a.length % 16 % 8 = 0 by omega), if_neg h8]
        simp

theorem seg_len (i : Nat) (c : UInt8) : (encode [c]).length = 2 := by rw [encode_length]; rfl
theorem adr_len (n : Nat) : (adr n).length = 8 := by unfold adr; rw [encode_length]; rfl
theorem tail1_len (u : Nat) : (tail1 u).length ≤ 2 := by unfold tail1; split <;> (try split) <;> simp

theorem snoc_ind {P : List UInt8 → Prop} (h0 : P []) (h1 : ∀ a c, P a → P (a ++ [c])) (a : List UInt8) : P a := by
  have : ∀ n (a : List UInt8), a.length = n → P a := by
    intro n
    induction n with
    | zero => intro a ha; rw [List.eq_nil_of_length_eq_zero ha]; exact h0
    | succ n ih =>
      intro a ha
      have hne : a ≠ [] := fun e => by rw [e] at ha; simp at ha
      rw [← List.dropLast_concat_getLast hne]
      exact h1 _ _ (ih _ (by rw [List.length_dropLast, ha]; rfl))
  exact this _ a rfl

theorem outL_nil : outL [] = [] := by simp [outL, full, preD, cur]

theorem outL_len (a : List UInt8) : (outL a).length ≤ 33 * a.length := by
  refine snoc_ind (P := fun a => (outL a).length ≤ 33 * a.length) (by simp [outL_nil]) (fun a c ih => ?_) a
  have h1 := tail1_len (a.length % 16)
  have h2 := adr_len a.length
  have h3 := cur_len a
  rw [step]
  simp only [List.length_append, seg_len 0, List.length_cons, List.length_nil]
  have e1 : (if a.length % 16 = 0 then adr a.length ++ [32, 32] else []).length ≤ 10 := by split <;> simp [h2]
  have e2 : (if a.length % 16 = 15 then (cur a ++ [c]).map toCh ++ [124, 10] else []).length ≤ 18 := by
    split
    · simp [h3]; omega
    · simp
  omega

theorem pads (u : Nat) (h0 : 0 < u) (h : u < 16) : (if u = 8 then [32] else []) ++ padC u 16 = pad u ++ [32, 124] := by
  have : ∀ u : Fin 16, 0 < u.val → (if u.val = 8 then [32] else []) ++ padC u.val 16 = pad u.val ++ [32, 124] := by decide
  exact this ⟨u, h⟩ h0

theorem padC_succ (u v : Nat) (h : u ≤ v) : padC u (v + 1) = padC u v ++ pc v := by
  unfold padC
  rw [show v + 1 - u = (v - u) + 1 by omega, List.range_succ, List.flatMap_append]
  simp only [List.flatMap_cons, List.flatMap_nil, List.append_nil]
  rw [show u + (v - u) = v by omega]

theorem padC_self (u : Nat) : padC u u = [] := by simp [padC]

theorem padC_len (u v : Nat) : (padC u v).length ≤ 5 * (v - u) := by
  unfold padC
  generalize v - u = n
  induction n with
  | zero => simp
  | succ n ih =>
    rw [List.range_succ, List.flatMap_append]
    have h1 : (pc (u + n)).length ≤ 5 := by have := tail1_len (u + n); simp only [pc, List.length_append, List.length_cons, List.length_nil]; omega
    simp only [List.flatMap_cons, List.flatMap_nil, List.append_nil, List.length_append]
    omega

theorem dump_open (a : List UInt8) (h : a.length % 16 ≠ 0) : dumpL a = outL a ++ padC (a.length % 16) 16 ++ ((cur a).map toCh ++ [124, 10]) := by
  have hl := cur_len a
  have hne : cur a ≠ [] := fun e => by rw [e] at hl; simp at hl; omega
  unfold dumpL outL preD line
  rw [if_neg h, if_neg hne, hl]
  have := pads (a.length % 16) (by omega) (by omega)
  simp only [List.append_assoc] at this ⊢
  rw [← List.append_assoc (if a.length % 16 = 8 then [32] else []), this]
  simp

theorem dump_shut (a : List UInt8) (h : a.length % 16 = 0) : dumpL a = outL a := by
  have hl := cur_len a
  have hne : cur a = [] := List.eq_nil_of_length_eq_zero (by omega)
  unfold dumpL outL preD
  rw [if_pos h, if_pos hne]

end Go.Proofs.Ytkhoifaakidfcaa.Dm
