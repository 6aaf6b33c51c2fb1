/-
  Plain model of reads from a decoder: what is at hand, what is still to come, how it ended. Lists of bytes alone, no program in sight.
-/
import Derived.Test.YthldocgabpbgmaaDoorPureDec
namespace Go.Proofs.YthldocgabpbgmaaDoor.Hex
open Go.Lib Go.Lib.Hx

/-- What is at hand, what is to come, the end if it was told (how the text came out). -/
structure St where
  inn : List UInt8
  rest : List UInt8
  e : Option Out

def endOf : List UInt8 → Option Out
  | [] => some .ok
  | [c] => if 15 < v c then some (.bad c) else some .odd
  | _ => none

/-- How much one reading of a piece brings. -/
def much (piece : Nat) (s : St) : Nat := min (1024 - s.inn.length) (min piece s.rest.length)

/-- More is brought, if less than a pair is at hand. -/
def fill (piece : Nat) (s : St) : St :=
  if s.inn.length < 2 ∧ s.e = none then
    if s.rest = [] then ⟨s.inn, [], endOf s.inn⟩
    else ⟨s.inn ++ s.rest.take (much piece s), s.rest.drop (much piece s), none⟩
  else s

/-- How many pairs are decoded into k places. -/
def pairs (k : Nat) (s : St) : Nat := min k (s.inn.length / 2)

def give (k : Nat) (s : St) : List UInt8 × St :=
  match decode (s.inn.take (2 * pairs k s)) with
  | (d, .bad c) => (d, ⟨[], s.rest, some (.bad c)⟩)
  | (d, _) => (d, ⟨s.inn.drop (2 * d.length), s.rest, s.e⟩)

def num : Option Out → Int
  | none => 0
  | some .ok => 1
  | some (.bad _) => 2
  | some .odd => 3

def code (s : St) : Int := if s.inn.length < 2 then num s.e else 0

def step (piece k : Nat) (s : St) : List UInt8 × St := give k (fill piece s)

def reads (piece : Nat) : St → List Nat → List (List UInt8)
  | _, [] => []
  | s, k :: ks => (step piece k s).1 :: reads piece (step piece k s).2 ks
def ends (piece : Nat) : St → List Nat → List Int
  | _, [] => []
  | s, k :: ks => code (step piece k s).2 :: ends piece (step piece k s).2 ks
def after (piece : Nat) : St → List Nat → St
  | s, [] => s
  | s, k :: ks => after piece (step piece k s).2 ks

/-- What is still decoded of a state, and the fault. -/
def left (s : St) : List UInt8 × Out :=
  match s.e with
  | none => decode (s.inn ++ s.rest)
  | some .ok => ([], .ok)
  | some (.bad c) => ([], .bad c)
  | some .odd => ([], .odd)

/-- An end was told only with less than a pair at hand. -/
def Fine (s : St) : Prop := s.e ≠ none → s.inn.length < 2

theorem left_fill (piece : Nat) (s : St) : left (fill piece s) = left s := by
  unfold fill
  split
  · rename_i h
    obtain ⟨h1, h2⟩ := h
    split
    · rename_i h3
      unfold left
      rw [h2, h3]
      simp only [List.append_nil]
      match hi : s.inn, h1 with
      | [], _ => simp [endOf, decode_nil]
      | [c], _ =>
        rw [decode_one]
        simp only [endOf]
        by_cases hc : 15 < v c
        · simp [hc]
        · simp [hc]
    · unfold left
      rw [h2]
      simp [List.append_assoc, List.take_append_drop]
  · rfl

theorem fine_fill (piece : Nat) (s : St) (h : Fine s) : Fine (fill piece s) := by
  unfold fill
  split
  · rename_i hh
    split
    · intro _; exact hh.1
    · intro hn; exact absurd rfl hn
  · exact h

/-- A wrong byte stays what is told, whatever is behind. -/
theorem bad_stays (l X : List UInt8) (c : UInt8) (h : (decode l).2 = .bad c) (hl : l.length % 2 = 0) : decode (l ++ X) = decode l := by
  revert h hl
  refine two_ind (p := fun l => (decode l).2 = .bad c → l.length % 2 = 0 → decode (l ++ X) = decode l) ?_ ?_ ?_ l
  · intro h _; simp [decode_nil] at h
  · intro a _ h; simp at h
  · intro a b t ih h hl
    simp only [List.cons_append]
    rw [decode_two, decode_two]
    rw [decode_two] at h
    by_cases ha : 15 < v a
    · simp only [if_pos ha]
    · simp only [if_neg ha] at h ⊢
      by_cases hb : 15 < v b
      · simp only [if_pos hb]
      · simp only [if_neg hb] at h ⊢
        rw [ih h (by simp at hl; omega)]

theorem even_not_odd (l : List UInt8) (hl : l.length % 2 = 0) : (decode l).2 ≠ .odd := by
  revert hl
  refine two_ind (p := fun l => l.length % 2 = 0 → (decode l).2 ≠ .odd) ?_ ?_ ?_ l
  · intro _; simp [decode_nil]
  · intro a h; simp at h
  · intro a b t ih hl
    rw [decode_two]
    by_cases ha : 15 < v a
    · simp [ha]
    · by_cases hb : 15 < v b
      · simp [ha, hb]
      · simp only [if_neg ha, if_neg hb]
        exact ih (by simp at hl; omega)

theorem pairs_le (k : Nat) (s : St) : 2 * pairs k s ≤ s.inn.length := by unfold pairs; omega

theorem left_give (k : Nat) (s : St) (h : Fine s) : left s = ((give k s).1 ++ (left (give k s).2).1, (left (give k s).2).2) := by
  have hp := pairs_le k s
  have hlen : (s.inn.take (2 * pairs k s)).length % 2 = 0 := by rw [List.length_take, Nat.min_eq_left hp]; omega
  have hne := even_not_odd _ hlen
  cases he : s.e with
  | some E =>
    have hlt := h (by rw [he]; simp)
    have h0 : pairs k s = 0 := by unfold pairs; omega
    have hg : give k s = ([], ⟨s.inn, s.rest, some E⟩) := by
      unfold give
      rw [h0]
      simp [decode_nil, he]
    rw [hg]
    unfold left
    rw [he]
    cases E <;> rfl
  | none =>
    cases hd : decode (s.inn.take (2 * pairs k s)) with
    | mk d o =>
      rw [hd] at hne
      cases o with
      | odd => exact absurd rfl hne
      | bad c =>
        have hg : give k s = (d, ⟨[], s.rest, some (.bad c)⟩) := by unfold give; rw [hd]
        rw [hg]
        unfold left
        rw [he]
        have := bad_stays (s.inn.take (2 * pairs k s)) (s.inn.drop (2 * pairs k s) ++ s.rest) c (by rw [hd]) hlen
        rw [← List.append_assoc, List.take_append_drop, hd] at this
        simp [this]
      | ok =>
        have hg : give k s = (d, ⟨s.inn.drop (2 * d.length), s.rest, none⟩) := by unfold give; rw [hd, he]
        rw [hg]
        have hl2 := good_len (s.inn.take (2 * pairs k s)) (by rw [hd]; rfl)
        rw [hd, List.length_take, Nat.min_eq_left hp] at hl2
        have hl3 : 2 * d.length = 2 * pairs k s := hl2
        unfold left
        rw [he, hl3]
        have := join (s.inn.take (2 * pairs k s)) (s.inn.drop (2 * pairs k s) ++ s.rest) (by rw [hd]; rfl)
        rw [← List.append_assoc, List.take_append_drop, hd] at this
        exact this

theorem fine_give (k : Nat) (s : St) (h : Fine s) : Fine (give k s).2 := by
  unfold give
  split
  · intro _; simp
  · intro hn
    have := h hn
    simp only [List.length_drop]
    omega

theorem give_le (k : Nat) (s : St) : (give k s).1.length ≤ k := by
  have h1 := decode_len (s.inn.take (2 * pairs k s))
  have hp : pairs k s ≤ k := by unfold pairs; omega
  have h2 : (s.inn.take (2 * pairs k s)).length ≤ 2 * pairs k s := by rw [List.length_take]; omega
  have h3 : (give k s).1 = (decode (s.inn.take (2 * pairs k s))).1 := by unfold give; split <;> simp_all
  rw [h3]
  omega

theorem left_step (piece k : Nat) (s : St) (h : Fine s) : left s = ((step piece k s).1 ++ (left (step piece k s).2).1, (left (step piece k s).2).2) := by
  rw [← left_fill piece s]
  exact left_give k _ (fine_fill piece s h)
theorem fine_step (piece k : Nat) (s : St) (h : Fine s) : Fine (step piece k s).2 := fine_give k _ (fine_fill piece s h)

theorem num_le (e : Option Out) : 0 ≤ num e ∧ num e ≤ 3 := by cases e with
  | none => simp [num]
  | some E => cases E <;> simp [num]
theorem code_le (s : St) : 0 ≤ code s ∧ code s ≤ 3 := by unfold code; split; exact num_le _; omega

/-- The end that is told is the fault of what is left, and nothing is left. -/
theorem code_end (s : St) (h : code s ≠ 0) : (left s).1 = [] ∧ ((code s = 1 ∧ (left s).2 = .ok) ∨ (code s = 2 ∧ ∃ c, (left s).2 = .bad c) ∨ (code s = 3 ∧ (left s).2 = .odd)) := by
  unfold code at h ⊢
  split at h
  · rename_i hl
    rw [if_pos hl]
    unfold left
    cases he : s.e with
    | none => rw [he] at h; exact absurd rfl h
    | some E => cases E <;> simp [num]
  · exact absurd rfl h

theorem reads_len (piece : Nat) (s : St) (ks : List Nat) : (reads piece s ks).length = ks.length := by
  induction ks generalizing s with
  | nil => rfl
  | cons k ks ih => simp [reads, ih]
theorem ends_len (piece : Nat) (s : St) (ks : List Nat) : (ends piece s ks).length = ks.length := by
  induction ks generalizing s with
  | nil => rfl
  | cons k ks ih => simp [ends, ih]

/-- What is read, and what is left behind it. -/
theorem left_reads (piece : Nat) (s : St) (ks : List Nat) (h : Fine s) : left s = ((reads piece s ks).flatten ++ (left (after piece s ks)).1, (left (after piece s ks)).2) := by
  induction ks generalizing s with
  | nil => simp [reads, after]
  | cons k ks ih =>
    rw [left_step piece k s h, ih _ (fine_step piece k s h)]
    simp [reads, after]

end Go.Proofs.YthldocgabpbgmaaDoor.Hex
