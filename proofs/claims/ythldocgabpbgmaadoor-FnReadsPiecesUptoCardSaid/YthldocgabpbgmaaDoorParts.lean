/-
  A slice of slices of bytes that reads as a list of lists ('RP'), how an argument of that kind is opened, and the contract of the reference's Joined.
-/
import Derived.Test.YthldocgabpbgmaaDoorAppend
import Derived.Deep.Matrix
namespace Go.Proofs.YthldocgabpbgmaaDoor
open Go.ChangeShapes Go.WideShapes Go.ChangeAt Go.RowKit Go.Lib
set_option linter.unusedVariables false

def RP (w : World) (A : Option Addr) (n : Nat) (ls : List (List UInt8)) : Prop :=
  ls.length = n ∧ (0 < n → ∃ b o, A = some ⟨b, o, none⟩ ∧ b < w.heap.size ∧ ∀ i l, ls[i]? = some l → ∃ X m c, w.cell? ⟨b, o + i, none⟩ = some (.slice X m c) ∧ RB w X m l ∧ m ≤ c ∧ c ≤ 9223372036854775807)

section
variable {w w' : World} {A : Option Addr} {n : Nat} {ls : List (List UInt8)}
theorem RP.len (h : RP w A n ls) : ls.length = n := h.1
theorem RP.at_ (h : RP w A n ls) {k : Nat} (hk : k < n) : ∃ b o l X m c, A = some ⟨b, o, none⟩ ∧ b < w.heap.size ∧ ls[k]? = some l ∧ w.cell? ⟨b, o + k, none⟩ = some (.slice X m c) ∧ RB w X m l ∧ m ≤ c ∧ c ≤ 9223372036854775807 := by
  obtain ⟨b, o, e, hb, hc⟩ := h.2 (by omega)
  have hl : k < ls.length := by rw [h.1]; exact hk
  obtain ⟨X, m, c, h1, h2, h3, h4⟩ := hc k _ (List.getElem?_eq_getElem hl)
  exact ⟨b, o, ls[k], X, m, c, e, hb, List.getElem?_eq_getElem hl, h1, h2, h3, h4⟩
theorem RP.below (h : RP w A n ls) (hb : Below w.heap.size w w') : RP w' A n ls :=
  ⟨h.1, fun hn => by
    obtain ⟨b, o, e, hlt, hc⟩ := h.2 hn
    refine ⟨b, o, e, Nat.lt_of_lt_of_le hlt hb.size, fun i l hi => ?_⟩
    obtain ⟨X, m, c, h1, h2, h3, h4⟩ := hc i l hi
    exact ⟨X, m, c, (hb.cell (p := ⟨b, o + i, none⟩) hlt).trans h1, h2.below hb, h3, h4⟩⟩
end

/-! ### The argument -/

theorem bulk_len {H : Type} (xs : List (DataW H)) : xs.length ≤ Rows.uptoBulkAll xs := by
  induction xs with
  | nil => simp [Rows.uptoBulkAll]
  | cons d t ih =>
    have : 1 ≤ Rows.uptoBulk d := by cases d with
      | lit l => cases l <;> simp [Rows.uptoBulk]
      | _ => simp [Rows.uptoBulk]
    simp only [Rows.uptoBulkAll, List.length_cons]
    omega

theorem bulk_rows {H : Type} (f : Nat → DataW H) (g : Nat → Nat) (h : ∀ r, g r + 1 ≤ Rows.uptoBulk (f r)) (rs : List Nat) : (rs.map g).sum + rs.length ≤ Rows.uptoBulkAll (rs.map f) := by
  induction rs with
  | nil => simp [Rows.uptoBulkAll]
  | cons r t ih =>
    have := h r
    simp only [List.map_cons, List.sum_cons, List.length_cons, Rows.uptoBulkAll]
    omega

theorem flat_len (f : Nat → List UInt8) (rs : List Nat) : ((rs.map f).flatten).length = (rs.map fun r => (f r).length).sum := by
  induction rs with
  | nil => rfl
  | cons r t ih => simp only [List.map_cons, List.flatten_cons, List.length_append, List.sum_cons, ih]

theorem bulk_row {H : Type} (A : Option Addr) (L : Nat) (zs : List Int) (hA : A = none → zs = []) : min L zs.length + 1 ≤ Rows.uptoBulk (Deep.intRow (H := H) .u8 A L zs) := by
  cases A with
  | none => simp [Deep.intRow, Rows.uptoBulk, hA rfl]
  | some a =>
    simp only [Deep.intRow, Rows.uptoBulk, bulk_lits, List.length_take, List.length_drop]
    omega

theorem add_at (b o i : Nat) : (⟨b, o, none⟩ : Addr).add i = ⟨b, o + i, none⟩ := by
  unfold Addr.add
  split
  · rename_i h0; subst h0; simp
  · rfl

theorem spot_none {w : World} {a : Addr} {v : Value} (h : w.cell? (a.add 0) = some v) : ∃ b o, a = ⟨b, o, none⟩ ∧ b < w.heap.size := by
  obtain ⟨b, o, sp⟩ := a
  have hsp : sp = none := by simpa [Addr.add] using World.cell?_spot h
  subst hsp
  exact ⟨b, o, rfl, by have := World.block_lt_of_cell? w _ h; simpa [Addr.add] using this⟩

set_option maxHeartbeats 400000 in
/-- What a [][]byte that came in is told to be: its lists; its room; its share of the reading's bulk. -/
theorem argP {H : Type} {enc : TypeId × Value → H} {W : World} {A : Option Addr} {len cap : Nat} {d : DataW H} {p : List MemPlace}
    (h : DataW.Trod enc Tryd.prog W 0 (fun _ => true) true 26 (.slice A len cap) d p) (hw : ∀ n ∈ d.weights Tryd.prog 26, n ≤ reachBytes) :
    ∃ ls : List (List UInt8), RP W A len ls ∧ len ≤ cap ∧ cap ≤ 140737488351232 ∧ ls.flatten.length + cap + 1 ≤ Rows.uptoBulk d := by
  obtain ⟨fuel, hf⟩ := h
  rcases Deep.open_int_rows Tryd.underlying26 Tryd.underlying22 Tryd.underlying5 (by kernel_rfl) (by kernel_rfl) hf with ⟨hcs, hx⟩ | ⟨a, l, c, B, L, C, Z, hcs, _, hl, hm, hx, hrow⟩
  · simp [Value.cells] at hcs
    obtain ⟨rfl, rfl, rfl⟩ := hcs
    simp only [Prod.mk.injEq] at hx
    obtain ⟨rfl, rfl⟩ := hx
    exact ⟨[], ⟨rfl, fun h => absurd h (by omega)⟩, Nat.le_refl _, by omega, by simp [Rows.uptoBulk]⟩
  · simp [Value.cells] at hcs
    obtain ⟨rfl, rfl, rfl⟩ := hcs
    simp only [Prod.mk.injEq] at hx
    obtain ⟨rfl, rfl⟩ := hx
    have hby : Tryd.prog.bytesOf 22 = 24 := by kernel_rfl
    have hg : cap ≤ 140737488351232 := by
      have h1 := hw (((List.range len).map fun r => Deep.intRow (H := H) .u8 (B r) (L r) (Z r)).length * 24 + ((List.range (cap - len)).map fun j => Deep.intRow (H := H) .u8 (B (len + j)) (L (len + j)) (Z (len + j))).length * 24) (by simp [DataW.weights, Tryd.underlying26, hby, Nat.add_mul])
      simp only [List.length_map, List.length_range, reachBytes] at h1
      omega
    refine ⟨(List.range len).map fun r => ((Z r).take (L r)).map fun z => UInt8.ofNat z.toNat, ⟨by simp, fun hn => ?_⟩, hl, hg, ?_⟩
    · obtain ⟨b, o, rfl, hlt⟩ := spot_none (hrow 0 (by omega)).1
      refine ⟨b, o, rfl, hlt, fun i x hi => ?_⟩
      have hil : i < len := by
        have := (List.getElem?_eq_some_iff.1 hi).1
        simpa using this
      rw [List.getElem?_map, List.getElem?_range hil, Option.map_some, Option.some.injEq] at hi
      subst hi
      obtain ⟨h1, h2, h3, h4, h5, h6, h7⟩ := hrow i (by omega)
      rw [add_at] at h1
      simp only [maxLen] at h3
      refine ⟨B i, L i, C i, h1, ⟨by simp; omega, fun hp => ?_⟩, h2, by omega⟩
      cases hB : B i with
      | none => exact absurd (h6 hB) (by omega)
      | some a' =>
        obtain ⟨_, hc⟩ := h7 a' hB
        obtain ⟨b', o', rfl, hlt'⟩ := spot_none (hc 0 (by omega))
        refine ⟨b', o', rfl, hlt', fun k cc hk => ?_⟩
        rw [List.getElem?_map, List.getElem?_take] at hk
        by_cases hkl : k < L i
        · rw [if_pos hkl, List.getElem?_eq_getElem (by omega)] at hk
          simp only [Option.map_some, Option.some.injEq] at hk
          have hb := byte_wf (h5 _ (List.getElem_mem (l := Z i) (n := k) (by omega)))
          have hck := hc k (by omega)
          rw [add_at, List.getD_eq_getElem?_getD, List.getElem?_eq_getElem (by omega)] at hck
          have e1 : (cc.toNat : Int) = (Z i)[k]'(by omega) := by
            rw [← hk, UInt8.toNat_ofNat']; omega
          rw [e1]
          exact hck
        · rw [if_neg hkl] at hk; cases hk
    · rw [flat_len]
      simp only [Rows.uptoBulk]
      have hA : ∀ r, r < cap → B r = none → Z r = [] := fun r hr e => List.eq_nil_of_length_eq_zero (by rw [(hrow r hr).2.2.2.1]; exact (hrow r hr).2.2.2.2.2.1 e)
      have h1 : ((List.range len).map fun r => (((Z r).take (L r)).map fun z => UInt8.ofNat z.toNat).length).sum + len ≤ Rows.uptoBulkAll ((List.range len).map fun r => Deep.intRow (H := H) .u8 (B r) (L r) (Z r)) := by
        have key : ∀ rs : List Nat, (∀ r ∈ rs, r < cap) → (rs.map fun r => (((Z r).take (L r)).map fun z => UInt8.ofNat z.toNat).length).sum + rs.length ≤ Rows.uptoBulkAll (rs.map fun r => Deep.intRow (H := H) .u8 (B r) (L r) (Z r)) := by
          intro rs
          induction rs with
          | nil => simp [Rows.uptoBulkAll]
          | cons r t ih =>
            intro hr
            have h1 := bulk_row (H := H) (B r) (L r) (Z r) (hA r (hr r (by simp)))
            have h2 := ih (fun x hx => hr x (by simp [hx]))
            simp only [List.map_cons, List.sum_cons, List.length_cons, Rows.uptoBulkAll, List.length_map, List.length_take] at h1 h2 ⊢
            omega
        have := key (List.range len) (fun r hr => by have := List.mem_range.1 hr; omega)
        simpa using this
      have h2 := bulk_len ((List.range (cap - len)).map fun j => Deep.intRow (H := H) .u8 (B (len + j)) (L (len + j)) (Z (len + j)))
      simp only [List.length_map, List.length_range] at h2
      omega

set_option maxHeartbeats 1000000 in
set_option maxRecDepth 100000 in
/-- spec.Joined: all parts together, in a row of its own. -/
theorem specJoined (A : Option Addr) (n c : Nat) (ls : List (List UInt8)) (w : World) (h : RP w A n ls) (hn : n ≤ 140737488351232) (hbig : ls.flatten.length ≤ 140737488355328) :
    Calls Tryd.prog 11 #[.slice A n c] w fun e w' => ∃ A' c', e = .returned (.slice A' ls.flatten.length c') ∧ OB w' w.heap.size A' ls.flatten.length c' ls.flatten ∧ Below w.heap.size w w' := by
  have HB := Lib.hid h
  clear h
  go_enter Tryd.func11, Tryd.ntmps11
  go_wp2_with fail
  go_loopw [3, 4] (fun v i wr => ∃ (k m : Nat) (X : Option Addr) (d : Nat), k ≤ n ∧ v = .slice X m d ∧ i = .int .i64 k ∧ Hid (OB wr w.heap.size X m d (ls.take k).flatten) ∧ Hid (Below w.heap.size w wr)) (fun _ i _ => n - (intOf i).toNat)
  case atStart => exact ⟨0, 0, _, _, Nat.zero_le _, rfl, rfl, OB.made w _ (Nat.le_refl _) #[] (by simp), (Below.refl _ w).alloc (Nat.le_refl _) _⟩
  case round =>
    obtain ⟨k, m, X, d, hk, rfl, rfl, ho, hb⟩ := hrel
    by_cases hlt : k < n
    · obtain ⟨b, o, l, Y, m2, c2, rfl, hbs, hl, hcell, hR, hc1, hc2⟩ := HB.out.at_ hlt
      have hcx : wr.cell? ⟨b, o + k, none⟩ = some (.slice Y m2 c2) := (hb.out.cell (p := ⟨b, o + k, none⟩) hbs).trans hcell
      have HF : Hid ((ls.take (k + 1)).flatten = (ls.take k).flatten ++ l) := by
        obtain ⟨hk', e⟩ := List.getElem?_eq_some_iff.1 hl
        rw [Hid, List.take_succ_eq_append_getElem hk', e]; simp
      have hfit : m + m2 ≤ 140737488355328 := by
        have h1 : (ls.take (k + 1)).flatten.length ≤ ls.flatten.length := by
          have := congrArg (fun x => x.flatten.length) (List.take_append_drop (k + 1) ls)
          simp only [List.flatten_append, List.length_append] at this
          omega
        rw [HF.out, List.length_append, ho.out.len, hR.len] at h1
        omega
      have HR := Lib.hid (hR.below hb.out)
      have hsz : w.heap.size ≤ wr.heap.size := hb.out.size
      clear hcell hR hl
      go_wp2_with (at_builtin; refine wpList_appB rfl (.tmp 12) (.tmp 16) rfl w.heap.size m d X _ rfl ho.out Y m2 c2 l rfl HR.out hfit hsz ?_; intro A2 d2 w1 hown1 hg1 hat1)
      have hbw1 : Hid (Below w.heap.size w w1) := ho.out.grows hb.out hg1 (Nat.le_refl _) hsz
      have HO2 : Hid (OB w1 w.heap.size A2 (m + m2) d2 (ls.take (k + 1)).flatten) := by rw [Hid, HF.out]; exact hown1
      clear hown1 hg1 hat1 HR HF ho hb
      go_wp2_with fail
      go_roundw
      case rel => exact ⟨k + 1, m + m2, A2, d2, by omega, rfl, by go_num, HO2, hbw1⟩
      case measure => simp [intOf]; omega
    · have hk2 : k = n := by omega
      subst hk2
      have e : ls.take k = ls := by rw [← HB.out.len, List.take_length]
      rw [e] at ho
      have e2 := ho.out.len
      subst e2
      clear e
      go_wp2_with fail
      go_ret
      exact ⟨X, d, rfl, ho.out, hb.out⟩

end Go.Proofs.YthldocgabpbgmaaDoor
