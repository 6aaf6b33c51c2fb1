/-
  Plain facts on the dump of bytes, as the statements ask them: lists alone, no program in sight.
-/
import Derived.Test.YtkhoifaakidfcaaDumpPure
namespace Go.Proofs.Ytkhoifaakidfcaa.Dm
open Go.Lib Go.Lib.Hx
set_option linter.unusedVariables false

theorem segs_len (d : List UInt8) : (segs 0 d).length = 3 * d.length + (d.length + 7) / 8 := by
  refine snoc_ind (P := fun d => (segs 0 d).length = 3 * d.length + (d.length + 7) / 8) (by simp [segs]) (fun a c ih => ?_) d
  rw [segs_snoc, List.length_append, ih, List.length_append]
  simp only [seg, Nat.zero_add, List.length_append, seg_len 0, List.length_cons, List.length_nil]
  by_cases h : a.length % 8 = 0
  · rw [if_pos h]; simp; omega
  · rw [if_neg h]; simp; omega

theorem pad_len (u : Nat) (h : u ≤ 16) : (pad u).length + (u + 7) / 8 + 3 * u = 50 := by
  have : ∀ u : Fin 17, (pad u.val).length + (u.val + 7) / 8 + 3 * u.val = 50 := by decide
  exact this ⟨u, by omega⟩

theorem line_len (n : Nat) (d : List UInt8) (h : d.length ≤ 16) : (line n d).length = 63 + d.length := by
  have h1 := segs_len d
  have h2 := pad_len d.length h
  have h3 := adr_len n
  simp only [line, List.length_append, List.length_map, List.length_cons, List.length_nil]
  omega

theorem chunk_len (a : List UInt8) (r : Nat) : (chunk a r).length = min 16 (a.length - 16 * r) := by
  unfold chunk
  rw [List.length_take, List.length_drop]

theorem full_succ (a : List UInt8) (q : Nat) : full a (q + 1) = full a q ++ line (16 * q) (chunk a q) := by
  unfold full
  rw [List.range_succ, List.flatMap_append]
  simp

theorem full_len (a : List UInt8) (q : Nat) (h : 16 * q ≤ a.length) : (full a q).length = 79 * q := by
  induction q with
  | zero => rfl
  | succ q ih =>
    have := chunk_len a q
    rw [full_succ, List.length_append, ih (by omega), line_len _ _ (by omega)]
    omega

theorem full_split (a : List UInt8) (r : Nat) : ∀ q, r < q → ∃ rest, full a q = full a r ++ (line (16 * r) (chunk a r) ++ rest) := by
  intro q
  induction q with
  | zero => intro h; omega
  | succ q ih =>
    intro h
    rw [full_succ]
    rcases Nat.lt_or_ge r q with h1 | h1
    · obtain ⟨rest, e⟩ := ih h1
      exact ⟨rest ++ line (16 * q) (chunk a q), by rw [e]; simp⟩
    · obtain rfl : r = q := by omega
      exact ⟨[], by simp⟩

theorem cur_chunk (a : List UInt8) : cur a = chunk a (a.length / 16) := by
  unfold cur chunk
  rw [List.take_of_length_le (by rw [List.length_drop]; omega)]

theorem dump_split (a : List UInt8) (r : Nat) (h : 16 * r < a.length) : ∃ rest, dumpL a = full a r ++ (line (16 * r) (chunk a r) ++ rest) := by
  unfold dumpL
  rcases Nat.lt_or_ge r (a.length / 16) with h1 | h1
  · obtain ⟨rest, e⟩ := full_split a r _ h1
    rw [e]
    exact ⟨rest ++ (if a.length % 16 = 0 then [] else line (16 * (a.length / 16)) (cur a)), by simp only [List.append_assoc]⟩
  · obtain rfl : r = a.length / 16 := by omega
    rw [if_neg (by omega), cur_chunk]
    exact ⟨[], by simp⟩

theorem dump_len (a : List UInt8) : (dumpL a).length = 79 * (a.length / 16) + (if a.length % 16 = 0 then 0 else 63 + a.length % 16) := by
  unfold dumpL
  rw [List.length_append, full_len a _ (by omega)]
  by_cases h : a.length % 16 = 0
  · rw [if_pos h, if_pos h]; rfl
  · rw [if_neg h, if_neg h, line_len _ _ (by rw [cur_len]; omega), cur_len]

theorem segs_split (d : List UInt8) : ∀ (i k : Nat) (c : UInt8), d[k]? = some c → segs i d = segs i (d.take k) ++ (seg (i + k) c ++ segs (i + k + 1) (d.drop (k + 1))) := by
  induction d with
  | nil => intro i k c h; simp at h
  | cons x t ih =>
    intro i k c h
    cases k with
    | zero => simp at h; subst h; simp [segs]
    | succ k =>
      simp at h
      simp only [List.take_succ_cons, segs, List.drop_succ_cons]
      rw [ih (i + 1) k c h, show i + 1 + k = i + (k + 1) by omega, List.append_assoc]

theorem chunk_at (a : List UInt8) (i : Nat) : (chunk a (i / 16))[i % 16]? = a[i]? := by
  unfold chunk
  rw [List.getElem?_take, if_pos (by omega), List.getElem?_drop, show 16 * (i / 16) + i % 16 = i by omega]

/-- The digits of byte i stand at their place. -/
theorem dump_byte (a : List UInt8) (i : Nat) (c : UInt8) (h : a[i]? = some c) : ∃ x y, dumpL a = x ++ (encode [c] ++ y) ∧ x.length = i / 16 * 79 + 10 + 3 * (i % 16) + i % 16 / 8 := by
  have hi := (List.getElem?_eq_some_iff.1 h).1
  obtain ⟨rest, e⟩ := dump_split a (i / 16) (by omega)
  have hc : (chunk a (i / 16))[i % 16]? = some c := by rw [chunk_at]; exact h
  have hcl := (List.getElem?_eq_some_iff.1 hc).1
  have es := segs_split (chunk a (i / 16)) 0 (i % 16) c hc
  have hfl := full_len a (i / 16) (by omega)
  have hal := adr_len (16 * (i / 16))
  have htl : (segs 0 ((chunk a (i / 16)).take (i % 16))).length = 3 * (i % 16) + (i % 16 + 7) / 8 := by
    rw [segs_len, List.length_take]
    rw [show min (i % 16) (chunk a (i / 16)).length = i % 16 by omega]
  refine ⟨full a (i / 16) ++ adr (16 * (i / 16)) ++ [32] ++ segs 0 ((chunk a (i / 16)).take (i % 16)) ++ (if i % 16 % 8 = 0 then [32] else []), [32] ++ (segs (i % 16 + 1) ((chunk a (i / 16)).drop (i % 16 + 1)) ++ (pad (chunk a (i / 16)).length ++ ([32, 124] ++ ((chunk a (i / 16)).map toCh ++ ([124, 10] ++ rest))))), ?_, ?_⟩
  · rw [e]
    unfold line
    rw [es, Nat.zero_add]
    unfold seg
    simp only [List.append_assoc]
  · simp only [List.length_append, hfl, hal, htl, List.length_cons, List.length_nil]
    by_cases h8 : i % 16 % 8 = 0
    · rw [if_pos h8]; simp; omega
    · rw [if_neg h8]; simp; omega

/-- Each byte is shown at the end of its line. -/
theorem dump_char (a : List UInt8) (i : Nat) (c : UInt8) (h : a[i]? = some c) : (dumpL a)[i / 16 * 79 + 61 + i % 16]? = some (toCh c) := by
  have hi := (List.getElem?_eq_some_iff.1 h).1
  obtain ⟨rest, e⟩ := dump_split a (i / 16) (by omega)
  have hc : (chunk a (i / 16))[i % 16]? = some c := by rw [chunk_at]; exact h
  have hcl := (List.getElem?_eq_some_iff.1 hc).1
  have h16 : (chunk a (i / 16)).length ≤ 16 := by rw [chunk_len]; omega
  have hfl := full_len a (i / 16) (by omega)
  have hal := adr_len (16 * (i / 16))
  have h1 := segs_len (chunk a (i / 16))
  have h2 := pad_len (chunk a (i / 16)).length h16
  have hpre : (adr (16 * (i / 16)) ++ [32] ++ segs 0 (chunk a (i / 16)) ++ pad (chunk a (i / 16)).length ++ [32, 124]).length = 61 := by
    simp only [List.length_append, hal, List.length_cons, List.length_nil]
    omega
  rw [e, List.getElem?_append_right (by omega), hfl]
  unfold line
  rw [List.append_assoc, List.append_assoc, List.getElem?_append_right (by omega), hpre, List.getElem?_append_left (by rw [List.length_map]; omega), show i / 16 * 79 + 61 + i % 16 - 79 * (i / 16) - 61 = i % 16 by omega, List.getElem?_map, hc]
  rfl

/-- Each line begins with the address. -/
theorem dump_adr (a : List UInt8) (r : Nat) (h : 16 * r < a.length) : ∃ x y, dumpL a = x ++ (adr (16 * r) ++ y) ∧ x.length = r * 79 := by
  obtain ⟨rest, e⟩ := dump_split a r h
  refine ⟨full a r, [32] ++ (segs 0 (chunk a r) ++ (pad (chunk a r).length ++ ([32, 124] ++ ((chunk a r).map toCh ++ ([124, 10] ++ rest))))), ?_, by rw [full_len a r (by omega)]; omega⟩
  rw [e]
  unfold line
  simp only [List.append_assoc]

theorem dump_inj (a b : List UInt8) (h : dumpL a = dumpL b) : a = b := by
  have hl : a.length = b.length := by
    have h1 := dump_len a
    have h2 := dump_len b
    rw [h, h2] at h1
    by_cases ha : a.length % 16 = 0
    · by_cases hb : b.length % 16 = 0
      · rw [if_pos ha, if_pos hb] at h1; omega
      · rw [if_pos ha, if_neg hb] at h1; omega
    · by_cases hb : b.length % 16 = 0
      · rw [if_neg ha, if_pos hb] at h1; omega
      · rw [if_neg ha, if_neg hb] at h1; omega
  refine List.ext_getElem hl (fun i h1 h2 => ?_)
  obtain ⟨x, y, e, hx⟩ := dump_byte a i a[i] (List.getElem?_eq_getElem h1)
  obtain ⟨x', y', e', hx'⟩ := dump_byte b i b[i] (List.getElem?_eq_getElem h2)
  rw [h, e'] at e
  have hxx : x'.length = x.length := by omega
  obtain ⟨_, e2⟩ := List.append_inj e hxx
  have hen : (encode [b[i]]).length = (encode [a[i]]).length := by rw [encode_length, encode_length]; rfl
  obtain ⟨e3, _⟩ := List.append_inj e2 hen
  have := Hex.encode_inj _ _ e3
  simpa using this.symm

theorem dump_nil_iff (a : List UInt8) : dumpL a = [] ↔ a = [] := by
  constructor
  · intro h
    have h1 := dump_len a
    rw [h] at h1
    apply List.eq_nil_of_length_eq_zero
    by_cases ha : a.length % 16 = 0
    · rw [if_pos ha] at h1; simp at h1; omega
    · rw [if_neg ha] at h1; simp at h1; omega
  · intro h; subst h; simp [dumpL, full]

/-! ### Lines -/

theorem cnt_enc (l : List UInt8) : (encode l).count 10 = 0 := by
  rw [List.count_eq_zero]
  intro h
  have := Hex.encode_all l 10 h
  simp at this

theorem cnt_ch (l : List UInt8) : (l.map toCh).count 10 = 0 := by
  rw [List.count_eq_zero]
  intro h
  obtain ⟨c, _, e⟩ := List.mem_map.1 h
  unfold toCh at e
  split at e
  · cases e
  · subst e; rename_i hh; exact hh (Or.inl (by decide))

theorem cnt_segs (d : List UInt8) : ∀ i, (segs i d).count 10 = 0 := by
  induction d with
  | nil => intro i; rfl
  | cons c t ih =>
    intro i
    simp only [segs, seg, List.count_append, ih, cnt_enc]
    split <;> decide

theorem cnt_pad (u : Nat) : (pad u).count 10 = 0 := by
  rw [List.count_eq_zero]
  intro h
  unfold pad at h
  obtain ⟨j, _, hj⟩ := List.mem_flatMap.1 h
  split at hj <;> simp at hj

theorem cnt_line (n : Nat) (d : List UInt8) : (line n d).count 10 = 1 := by
  unfold line adr
  simp only [List.count_append, cnt_enc, cnt_segs, cnt_pad, cnt_ch]
  decide

theorem cnt_full (a : List UInt8) (q : Nat) : (full a q).count 10 = q := by
  induction q with
  | zero => rfl
  | succ q ih => rw [full_succ, List.count_append, ih, cnt_line]

theorem dump_lines (a : List UInt8) : (dumpL a).count 10 = (a.length + 15) / 16 := by
  unfold dumpL
  rw [List.count_append, cnt_full]
  split
  · rename_i h; simp; omega
  · rw [cnt_line]; omega

/-! ### Whole lines stay -/

theorem chunk_more (a b : List UInt8) (r : Nat) (h : 16 * (r + 1) ≤ a.length) : chunk (a ++ b) r = chunk a r := by
  unfold chunk
  rw [List.drop_append_of_le_length (by omega), List.take_append_of_le_length (by rw [List.length_drop]; omega)]

theorem full_more (a b : List UInt8) (q : Nat) (h : 16 * q ≤ a.length) : full (a ++ b) q = full a q := by
  induction q with
  | zero => rfl
  | succ q ih => rw [full_succ, full_succ, ih (by omega), chunk_more a b q (by omega)]

theorem dump_begins (a b : List UInt8) (h : a.length % 16 = 0) : ∃ y, dumpL (a ++ b) = dumpL a ++ y := by
  have e1 : dumpL a = full a (a.length / 16) := by unfold dumpL; rw [if_pos h, List.append_nil]
  have hq : a.length / 16 ≤ (a ++ b).length / 16 := by rw [List.length_append]; omega
  have key : ∀ q, a.length / 16 ≤ q → ∃ y, full (a ++ b) q = full a (a.length / 16) ++ y := by
    intro q
    induction q with
    | zero => intro h; exact ⟨[], by rw [show a.length / 16 = 0 by omega]; rfl⟩
    | succ q ih =>
      intro h1
      rcases Nat.lt_or_ge q (a.length / 16) with h2 | h2
      · rw [show q + 1 = a.length / 16 by omega, full_more a b _ (by omega)]
        exact ⟨[], by simp⟩
      · obtain ⟨y, e⟩ := ih h2
        rw [full_succ, e]
        exact ⟨y ++ line (16 * q) (chunk (a ++ b) q), by rw [List.append_assoc]⟩
  obtain ⟨y, e⟩ := key _ hq
  rw [e1]
  unfold dumpL
  rw [e]
  exact ⟨y ++ (if (a ++ b).length % 16 = 0 then [] else line (16 * ((a ++ b).length / 16)) (cur (a ++ b))), by rw [List.append_assoc]⟩

end Go.Proofs.Ytkhoifaakidfcaa.Dm
