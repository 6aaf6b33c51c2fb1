/-
  Plain facts on decoding: lists of bytes alone, no program in sight.
-/
import Derived.Test.YtgkpekdgdiphdaaDoorPure
namespace Go.Proofs.YtgkpekdgdiphdaaDoor.Hex
open Go.Lib Go.Lib.Hx

/-- A fault, in the thin package's three parts. -/
def bad : Out → Bool
  | .ok => false
  | .bad _ => true
  | .odd => true
def wrong : Out → Bool
  | .ok => false
  | .bad _ => true
  | .odd => false
def byteOf : Out → UInt8
  | .ok => 0
  | .bad c => c
  | .odd => 0

/-- Two at a time. -/
theorem two_ind {p : List UInt8 → Prop} (h0 : p []) (h1 : ∀ c, p [c]) (h2 : ∀ a b t, p t → p (a :: b :: t)) : ∀ l, p l
  | [] => h0
  | [c] => h1 c
  | a :: b :: t => h2 a b t (two_ind h0 h1 h2 t)

theorem good_iff (l : List UInt8) : bad (decode l).2 = false ↔ l.length % 2 = 0 ∧ ∀ c ∈ l, v c ≤ 15 := by
  refine two_ind (p := fun l => bad (decode l).2 = false ↔ l.length % 2 = 0 ∧ ∀ c ∈ l, v c ≤ 15) ?_ ?_ ?_ l
  · simp [decode_nil, bad]
  · intro c
    rw [decode_one]
    split <;> simp [bad]
  · intro a b t ih
    rw [decode_two]
    by_cases ha : 15 < v a
    · rw [if_pos ha]
      simp only [bad, List.mem_cons]
      constructor
      · intro h; cases h
      · intro h; have := h.2 a (Or.inl rfl); omega
    · rw [if_neg ha]
      by_cases hb : 15 < v b
      · rw [if_pos hb]
        simp only [bad, List.mem_cons]
        constructor
        · intro h; cases h
        · intro h; have := h.2 b (Or.inr (Or.inl rfl)); omega
      · rw [if_neg hb]
        show bad (decode t).2 = false ↔ _
        rw [ih]
        simp only [List.length_cons, List.mem_cons]
        constructor
        · intro ⟨h1, h2⟩
          refine ⟨by omega, fun c hc => ?_⟩
          rcases hc with rfl | rfl | hc
          · omega
          · omega
          · exact h2 c hc
        · intro ⟨h1, h2⟩
          exact ⟨by omega, fun c hc => h2 c (Or.inr (Or.inr hc))⟩

theorem good_len (l : List UInt8) (h : bad (decode l).2 = false) : 2 * (decode l).1.length = l.length := by
  revert h
  refine two_ind (p := fun l => bad (decode l).2 = false → 2 * (decode l).1.length = l.length) ?_ ?_ ?_ l
  · simp [decode_nil]
  · intro c
    rw [decode_one]
    split <;> simp [bad]
  · intro a b t ih
    rw [decode_two]
    by_cases ha : 15 < v a
    · rw [if_pos ha]; intro h; cases h
    · rw [if_neg ha]
      by_cases hb : 15 < v b
      · rw [if_pos hb]; intro h; cases h
      · rw [if_neg hb]
        intro h
        have := ih h
        simp only [List.length_cons]
        omega

theorem bad_stops (l : List UInt8) (h : bad (decode l).2 = true) :
    2 * (decode l).1.length < l.length ∧ (2 * (decode l).1.length + 1 = l.length ∨ (∃ c, l[2 * (decode l).1.length]? = some c ∧ 15 < v c) ∨ ∃ c, l[2 * (decode l).1.length + 1]? = some c ∧ 15 < v c) := by
  revert h
  refine two_ind (p := fun l => bad (decode l).2 = true → 2 * (decode l).1.length < l.length ∧ (2 * (decode l).1.length + 1 = l.length ∨ (∃ c, l[2 * (decode l).1.length]? = some c ∧ 15 < v c) ∨ ∃ c, l[2 * (decode l).1.length + 1]? = some c ∧ 15 < v c)) ?_ ?_ ?_ l
  · simp [decode_nil, bad]
  · intro c
    rw [decode_one]
    split <;> simp [bad]
  · intro a b t ih
    rw [decode_two]
    by_cases ha : 15 < v a
    · rw [if_pos ha]
      intro _
      exact ⟨by simp, .inr (.inl ⟨a, rfl, ha⟩)⟩
    · rw [if_neg ha]
      by_cases hb : 15 < v b
      · rw [if_pos hb]
        intro _
        exact ⟨by simp, .inr (.inr ⟨b, rfl, hb⟩)⟩
      · rw [if_neg hb]
        intro h
        obtain ⟨h1, h2⟩ := ih h
        simp only [List.length_cons]
        refine ⟨by omega, ?_⟩
        rcases h2 with h2 | ⟨c, h2, h3⟩ | ⟨c, h2, h3⟩
        · left; omega
        · right; left
          exact ⟨c, by rw [show 2 * ((decode t).1.length + 1) = 2 * (decode t).1.length + 1 + 1 by omega, List.getElem?_cons_succ, List.getElem?_cons_succ]; exact h2, h3⟩
        · right; right
          exact ⟨c, by rw [show 2 * ((decode t).1.length + 1) + 1 = 2 * (decode t).1.length + 1 + 1 + 1 by omega, List.getElem?_cons_succ, List.getElem?_cons_succ]; exact h2, h3⟩

/-- A capital letter's small one. -/
def lower (c : UInt8) : UInt8 := if 65 ≤ c.toNat ∧ c.toNat ≤ 90 then UInt8.ofNat (c.toNat + 32) else c

theorem digit_v (c : UInt8) (h : v c ≤ 15) : digit (v c) = lower c := by
  revert h
  refine of_all (fun c => v c ≤ 15 → digit (v c) = lower c) ?_ c
  decide +kernel

theorem hi_of (a b : Nat) (ha : a ≤ 15) (hb : b ≤ 15) : (UInt8.ofNat (a * 16 + b)).toNat / 16 = a ∧ (UInt8.ofNat (a * 16 + b)).toNat % 16 = b := by
  rw [UInt8.toNat_ofNat']
  omega

/-- What is decoded of any text is its beginning, with small letters. -/
theorem begins (l : List UInt8) : encode (decode l).1 = (l.take (2 * (decode l).1.length)).map lower := by
  refine two_ind (p := fun l => encode (decode l).1 = (l.take (2 * (decode l).1.length)).map lower) ?_ ?_ ?_ l
  · simp [decode_nil, encode]
  · intro c
    rw [decode_one]
    split <;> simp [encode]
  · intro a b t ih
    rw [decode_two]
    by_cases ha : 15 < v a
    · rw [if_pos ha]; simp [encode]
    · rw [if_neg ha]
      by_cases hb : 15 < v b
      · rw [if_pos hb]; simp [encode]
      · rw [if_neg hb]
        show encode (UInt8.ofNat (v a * 16 + v b) :: (decode t).1) = _
        obtain ⟨e1, e2⟩ := hi_of (v a) (v b) (by omega) (by omega)
        rw [encode_cons, e1, e2, ih, digit_v a (by omega), digit_v b (by omega), List.length_cons, show 2 * ((decode t).1.length + 1) = 2 * (decode t).1.length + 1 + 1 by omega, List.take_succ_cons, List.take_succ_cons, List.map_cons, List.map_cons]

theorem good_text (l : List UInt8) (h : bad (decode l).2 = false) : encode (decode l).1 = l.map lower := by
  rw [begins, good_len l h, List.take_length]

/-- Behind a text without a fault another text is decoded as by itself. -/
theorem join (a b : List UInt8) (h : bad (decode a).2 = false) : decode (a ++ b) = ((decode a).1 ++ (decode b).1, (decode b).2) := by
  revert h
  refine two_ind (p := fun a => bad (decode a).2 = false → decode (a ++ b) = ((decode a).1 ++ (decode b).1, (decode b).2)) ?_ ?_ ?_ a
  · simp [decode_nil]
  · intro c
    rw [decode_one]
    split <;> (intro h; cases h)
  · intro x y t ih
    rw [List.cons_append, List.cons_append, decode_two, decode_two]
    by_cases hx : 15 < v x
    · rw [if_pos hx]; intro h; cases h
    · rw [if_neg hx, if_neg hx]
      by_cases hy : 15 < v y
      · rw [if_pos hy]; intro h; cases h
      · rw [if_neg hy, if_neg hy]
        intro h
        rw [ih h]
        rfl

/-- A fault in a pair stays, whatever is behind. -/
theorem keeps (s more : List UInt8) (h : bad (decode s).2 = true) (hn : 2 * (decode s).1.length + 1 ≠ s.length) : (decode (s ++ more)).1 = (decode s).1 ∧ bad (decode (s ++ more)).2 = true := by
  revert h hn
  refine two_ind (p := fun s => bad (decode s).2 = true → 2 * (decode s).1.length + 1 ≠ s.length → (decode (s ++ more)).1 = (decode s).1 ∧ bad (decode (s ++ more)).2 = true) ?_ ?_ ?_ s
  · simp [decode_nil, bad]
  · intro c
    rw [decode_one]
    split <;> simp
  · intro x y t ih
    rw [List.cons_append, List.cons_append, decode_two, decode_two]
    by_cases hx : 15 < v x
    · rw [if_pos hx, if_pos hx]
      exact fun _ _ => ⟨rfl, rfl⟩
    · rw [if_neg hx, if_neg hx]
      by_cases hy : 15 < v y
      · rw [if_pos hy, if_pos hy]
        exact fun _ _ => ⟨rfl, rfl⟩
      · rw [if_neg hy, if_neg hy]
        intro h hn
        simp only [List.length_cons] at hn
        obtain ⟨h1, h2⟩ := ih h (by omega)
        exact ⟨by rw [h1], h2⟩

/-- A byte that is no digit, at the head of what is left. -/
theorem decode_wrong (w : UInt8) (rest : List UInt8) (h : 15 < v w) : decode (w :: rest) = ([], .bad w) := by
  cases rest with
  | nil => rw [decode_one, if_pos h]
  | cons r t => rw [decode_two, if_pos h]

theorem decode_wrong_second (c w : UInt8) (rest : List UInt8) (hc : v c ≤ 15) (h : 15 < v w) : decode (c :: w :: rest) = ([], .bad w) := by
  rw [decode_two, if_neg (by omega), if_pos h]

/-- Digits of whatever case. -/
theorem decode_like (l : List UInt8) : ∀ src : List UInt8, l.map v = (encode src).map v → decode l = (src, .ok) := by
  refine two_ind (p := fun l => ∀ src : List UInt8, l.map v = (encode src).map v → decode l = (src, .ok)) ?_ ?_ ?_ l
  · intro src h
    cases src with
    | nil => exact decode_nil
    | cons a t => rw [encode_cons] at h; simp at h
  · intro c src h
    cases src with
    | nil => simp [encode] at h
    | cons a t => rw [encode_cons] at h; simp at h
  · intro a b t ih src h
    cases src with
    | nil => simp [encode] at h
    | cons x y =>
      rw [encode_cons] at h
      simp only [List.map_cons, List.cons.injEq] at h
      obtain ⟨h1, h2, h3⟩ := h
      have hx := x.toNat_lt
      rw [v_digit _ (by omega)] at h1
      rw [v_digit _ (by omega)] at h2
      rw [decode_two, h1, h2, if_neg (by omega), if_neg (by omega), ih y h3, byte_of_halves]

end Go.Proofs.YtgkpekdgdiphdaaDoor.Hex
