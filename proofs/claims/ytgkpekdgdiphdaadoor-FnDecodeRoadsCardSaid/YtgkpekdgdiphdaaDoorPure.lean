/-
  Plain facts on hexadecimal texts: lists of bytes alone, no program in sight. What the kit's 'Hx.encode', 'Hx.decode', 'Hx.v', 'Hx.digit' answer, as the statements of this seat ask it.
-/
import Derived.Lib.HexFns2
import GoSem.Op.String
namespace Go.Proofs.YtgkpekdgdiphdaaDoor.Hex
open Go.Lib Go.Lib.Hx

/-! ### Every byte, by the 256 -/

theorem of_all (p : UInt8 → Prop) (h : ∀ n : Fin 256, p (UInt8.ofNat n.val)) (c : UInt8) : p c := by
  have := h ⟨c.toNat, c.toNat_lt⟩
  simpa using this

/-! ### The digits -/

theorem digit_low (d : Nat) (h : d < 16) : (48 ≤ (digit d).toNat ∧ (digit d).toNat ≤ 57) ∨ (97 ≤ (digit d).toNat ∧ (digit d).toNat ≤ 102) := by
  have : ∀ d : Fin 16, (48 ≤ (digit d.val).toNat ∧ (digit d.val).toNat ≤ 57) ∨ (97 ≤ (digit d.val).toNat ∧ (digit d.val).toNat ≤ 102) := by decide
  exact this ⟨d, h⟩

theorem v_digit (d : Nat) (h : d < 16) : v (digit d) = d := by
  have : ∀ d : Fin 16, v (digit d.val) = d.val := by decide +kernel
  exact this ⟨d, h⟩

theorem digit_lt (a b : Nat) (ha : a < 16) (hb : b < 16) : decide (digit a < digit b) = decide (a < b) := by
  have : ∀ a b : Fin 16, decide (digit a.val < digit b.val) = decide (a.val < b.val) := by decide
  exact this ⟨a, ha⟩ ⟨b, hb⟩

theorem digit_eq (a b : Nat) (ha : a < 16) (hb : b < 16) : (digit a == digit b) = (a == b) := by
  have : ∀ a b : Fin 16, (digit a.val == digit b.val) = (a.val == b.val) := by decide
  exact this ⟨a, ha⟩ ⟨b, hb⟩

/-- What a byte that is a digit is: by its number. -/
theorem v_le (c : UInt8) : v c ≤ 15 ↔ (48 ≤ c.toNat ∧ c.toNat ≤ 57) ∨ (97 ≤ c.toNat ∧ c.toNat ≤ 102) ∨ (65 ≤ c.toNat ∧ c.toNat ≤ 70) := by
  refine of_all (fun c => v c ≤ 15 ↔ (48 ≤ c.toNat ∧ c.toNat ≤ 57) ∨ (97 ≤ c.toNat ∧ c.toNat ≤ 102) ∨ (65 ≤ c.toNat ∧ c.toNat ≤ 70)) ?_ c
  decide +kernel

/-! ### The text of bytes -/

theorem encode_append (a b : List UInt8) : encode (a ++ b) = encode a ++ encode b := by
  simp [encode, List.flatMap_append]

theorem encode_nil : encode [] = [] := rfl

theorem encode_drop (l : List UInt8) : ∀ i, (encode l).drop (2 * i) = encode (l.drop i) := by
  induction l with
  | nil => intro i; simp [encode]
  | cons a t ih =>
    intro i
    cases i with
    | zero => simp
    | succ k => rw [encode_cons, show 2 * (k + 1) = 2 * k + 1 + 1 by omega, List.drop_succ_cons, List.drop_succ_cons, ih, List.drop_succ_cons]

theorem encode_pair (l : List UInt8) (i : Nat) (c : UInt8) (h : l[i]? = some c) : ((encode l).drop (2 * i)).take 2 = encode [c] := by
  obtain ⟨hi, e⟩ := List.getElem?_eq_some_iff.1 h
  rw [encode_drop, List.drop_eq_getElem_cons hi, e, encode_cons, encode_cons]
  rfl

theorem encode_all (l : List UInt8) : ∀ c ∈ encode l, (48 ≤ c.toNat ∧ c.toNat ≤ 57) ∨ (97 ≤ c.toNat ∧ c.toNat ≤ 102) := by
  induction l with
  | nil => intro c h; cases h
  | cons a t ih =>
    intro c h
    rw [encode_cons] at h
    have ha := a.toNat_lt
    rcases List.mem_cons.1 h with e | h
    · subst e; exact digit_low _ (by omega)
    rcases List.mem_cons.1 h with e | h
    · subst e; exact digit_low _ (by omega)
    · exact ih c h

theorem encode_reverse (l : List UInt8) : encode (l.reverse) = (l.reverse.map fun b => [digit (b.toNat / 16), digit (b.toNat % 16)]).flatten := by
  simp [encode, List.flatMap_def]

theorem encode_snoc (l : List UInt8) (k : Nat) (c : UInt8) (h : l[k]? = some c) : encode (l.take (k + 1)) = encode (l.take k) ++ [digit (c.toNat / 16), digit (c.toNat % 16)] := by
  obtain ⟨hk, e⟩ := List.getElem?_eq_some_iff.1 h
  rw [List.take_succ_eq_append_getElem hk, e, encode_append, encode_cons]
  rfl

theorem digit_small (d : Nat) (h : d < 10) : (digit d).toNat = 48 + d := by
  have : ∀ d : Fin 10, (digit d.val).toNat = 48 + d.val := by decide
  exact this ⟨d, h⟩
theorem digit_great (d : Nat) (h : 10 ≤ d) (h2 : d < 16) : (digit d).toNat = 87 + d := by
  have : ∀ d : Fin 16, 10 ≤ d.val → (digit d.val).toNat = 87 + d.val := by decide
  exact this ⟨d, h2⟩ h

/-- The order of texts is that of their bytes. -/
theorem less_encode : ∀ a b : List UInt8, Op.bytesLess (encode a) (encode b) = Op.bytesLess a b
  | a, [] => by cases a <;> simp [encode, Op.bytesLess]
  | [], b :: y => by rw [encode_cons]; simp [encode, Op.bytesLess]
  | a :: x, b :: y => by
    have ha := a.toNat_lt
    have hb := b.toNat_lt
    rw [encode_cons, encode_cons]
    simp only [Op.bytesLess, less_encode x y]
    rw [digit_lt _ _ (by omega) (by omega), digit_lt _ _ (by omega) (by omega), digit_eq _ _ (by omega) (by omega), digit_eq _ _ (by omega) (by omega)]
    have e1 : decide (a < b) = decide (a.toNat < b.toNat) := by simp [UInt8.lt_iff_toNat_lt]
    have e2 : (a == b) = decide (a.toNat = b.toNat) := by
      rw [Bool.eq_iff_iff]; simp [← UInt8.toNat_inj]
    rw [e1, e2]
    generalize Op.bytesLess x y = L
    rcases Nat.lt_trichotomy a.toNat b.toNat with h | h | h
    · have h1 : decide (a.toNat < b.toNat) = true := by simpa using h
      rw [h1]
      by_cases h2 : a.toNat / 16 < b.toNat / 16
      · simp [h2]
      · have h3 : a.toNat / 16 = b.toNat / 16 := by omega
        have h4 : a.toNat % 16 < b.toNat % 16 := by omega
        simp [h3, h4]
    · rw [h]; simp
    · have h1 : decide (a.toNat < b.toNat) = false := by simp; omega
      have h2 : decide (a.toNat = b.toNat) = false := by simp; omega
      have h3 : ¬ a.toNat / 16 < b.toNat / 16 := by omega
      rw [h1, h2]
      by_cases h4 : a.toNat / 16 = b.toNat / 16
      · have h5 : ¬ a.toNat % 16 < b.toNat % 16 := by omega
        have h6 : a.toNat % 16 ≠ b.toNat % 16 := by omega
        simp [h4, h6]; omega
      · simp [h4]; omega

/-! ### Decoding -/

theorem byte_of_halves (a : UInt8) : UInt8.ofNat (a.toNat / 16 * 16 + a.toNat % 16) = a := by
  rw [show a.toNat / 16 * 16 + a.toNat % 16 = a.toNat by omega]
  simp

theorem decode_encode_append : ∀ l t : List UInt8, decode (encode l ++ t) = (l ++ (decode t).1, (decode t).2)
  | [], t => by simp [encode]
  | a :: x, t => by
    have ha := a.toNat_lt
    rw [encode_cons, List.cons_append, List.cons_append, decode_two, v_digit _ (by omega), v_digit _ (by omega), if_neg (by omega), if_neg (by omega), decode_encode_append x t, byte_of_halves]
    rfl

theorem decode_encode (l : List UInt8) : decode (encode l) = (l, .ok) := by
  have := decode_encode_append l []
  rw [decode_nil] at this
  simpa using this

theorem encode_inj (a b : List UInt8) (h : encode a = encode b) : a = b := by
  have h1 := decode_encode a
  rw [h, decode_encode b] at h1
  exact (Prod.mk.inj h1).1.symm

end Go.Proofs.YtgkpekdgdiphdaaDoor.Hex
