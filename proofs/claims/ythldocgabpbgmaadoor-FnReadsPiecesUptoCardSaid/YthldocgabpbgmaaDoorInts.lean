/-
  A slice of ints that reads as a list ('RI'), how an argument of that kind is opened; contracts of the laws' positive and first.
-/
import Derived.Test.YthldocgabpbgmaaDoorParts
namespace Go.Proofs.YthldocgabpbgmaaDoor
open Go.ChangeShapes Go.WideShapes Go.ChangeAt Go.RowKit Go.Lib
set_option linter.unusedVariables false

def RI (w : World) (A : Option Addr) (n : Nat) (l : List Int) : Prop :=
  l.length = n ∧ (0 < n → ∃ b o, A = some ⟨b, o, none⟩ ∧ b < w.heap.size ∧ ∀ i z, l[i]? = some z → w.cell? ⟨b, o + i, none⟩ = some (.int .i64 z))

section
variable {w w' : World} {A : Option Addr} {n : Nat} {l : List Int}
theorem RI.len (h : RI w A n l) : l.length = n := h.1
theorem RI.at_ (h : RI w A n l) {k : Nat} (hk : k < n) : ∃ b o z, A = some ⟨b, o, none⟩ ∧ b < w.heap.size ∧ l[k]? = some z ∧ w.cell? ⟨b, o + k, none⟩ = some (.int .i64 z) := by
  obtain ⟨b, o, e, hb, hc⟩ := h.2 (by omega)
  have hl : k < l.length := by rw [h.1]; exact hk
  exact ⟨b, o, l[k], e, hb, List.getElem?_eq_getElem hl, hc k _ (List.getElem?_eq_getElem hl)⟩
theorem RI.below (h : RI w A n l) (hb : Below w.heap.size w w') : RI w' A n l :=
  ⟨h.1, fun hn => by
    obtain ⟨b, o, e, hlt, hc⟩ := h.2 hn
    exact ⟨b, o, e, Nat.lt_of_lt_of_le hlt hb.size, fun i z hi => (hb.cell (p := ⟨b, o + i, none⟩) hlt).trans (hc i z hi)⟩⟩
theorem RI.two (w : World) (x y : Int) : RI (w.alloc (.cells #[.int .i64 x, .int .i64 y] 3)) (some ⟨w.heap.size, 0, none⟩) 2 [x, y] :=
  ⟨rfl, fun _ => ⟨w.heap.size, 0, rfl, by simp, fun i c hi => by
    match i with
    | 0 => simp at hi; subst hi; rw [cell_of_row _ _ _ _ _ (0, 0) (heap_alloc_new w _)]; rfl
    | 1 => simp at hi; subst hi; rw [cell_of_row _ _ _ _ _ (0, 0) (heap_alloc_new w _)]; rfl
    | i + 2 => simp at hi⟩⟩
end

/-- What a []int that came in is told to be: its list; its room; its share of the reading's bulk. -/
theorem argI {H : Type} {enc : TypeId × Value → H} {W : World} {A : Option Addr} {len cap : Nat} {d : DataW H} {p : List MemPlace}
    (h : DataW.Trod enc Tryd.prog W 0 (fun _ => true) true 23 (.slice A len cap) d p) (hw : ∀ n ∈ d.weights Tryd.prog 23, n ≤ reachBytes) :
    ∃ l : List Int, RI W A len l ∧ len ≤ cap ∧ cap ≤ 140737488351232 ∧ cap + 1 ≤ Rows.uptoBulk d := by
  obtain ⟨fuel, hf⟩ := h
  rcases open_ints Tryd.underlying23 Tryd.underlying3 (by kernel_rfl) hf with ⟨hcs, hx⟩ | ⟨x, l, c, zs, hcs, _, hl, hm, hz, hx, hcell, hwz⟩
  · simp [Value.cells] at hcs
    obtain ⟨rfl, rfl, rfl⟩ := hcs
    simp only [Prod.mk.injEq] at hx
    obtain ⟨rfl, rfl⟩ := hx
    exact ⟨[], ⟨rfl, fun h => absurd h (by omega)⟩, Nat.le_refl _, by omega, by simp [Rows.uptoBulk]⟩
  · simp [Value.cells] at hcs
    obtain ⟨rfl, rfl, rfl⟩ := hcs
    simp only [Prod.mk.injEq] at hx
    obtain ⟨rfl, rfl⟩ := hx
    have hz' : zs.length = cap := by simpa using hz
    have hby : Tryd.prog.bytesOf 3 = 8 := by kernel_rfl
    have hg : cap ≤ 140737488351232 := by
      have h1 := hw (((lits (H := H) .i64 (zs.take len)).length + (lits (H := H) .i64 (zs.drop len)).length) * Tryd.prog.bytesOf 3) (by simp [DataW.weights, Tryd.underlying23])
      rw [hby] at h1
      simp only [lits, List.length_map, List.length_take, List.length_drop, reachBytes] at h1
      omega
    refine ⟨zs.take len, ⟨by simp; omega, fun hn => ?_⟩, hl, hg, ?_⟩
    · obtain ⟨b, o, rfl, hlt⟩ := spot_none (hcell 0 (by omega))
      refine ⟨b, o, rfl, hlt, fun i z hi => ?_⟩
      rw [List.getElem?_take] at hi
      by_cases hil : i < len
      · rw [if_pos hil] at hi
        have hci := hcell i (by omega)
        rw [add_at, List.getD_eq_getElem?_getD, hi] at hci
        exact hci
      · rw [if_neg hil] at hi; cases hi
    · simp only [Rows.uptoBulk, bulk_lits, List.length_take, List.length_drop]
      omega

/-- All sizes are from 1 to 1024. -/
def pos (l : List Int) : Bool := l.all fun z => decide (1 ≤ z) && decide (z ≤ 1024)

theorem pos_take_succ (l : List Int) (k : Nat) (z : Int) (h : l[k]? = some z) : pos (l.take (k + 1)) = (pos (l.take k) && (decide (1 ≤ z) && decide (z ≤ 1024))) := by
  obtain ⟨hk, e⟩ := List.getElem?_eq_some_iff.1 h
  unfold pos
  rw [List.take_succ_eq_append_getElem hk, List.all_append, e]
  simp

theorem pos_false (l : List Int) (k : Nat) (z : Int) (h : l[k]? = some z) (hz : z < 1 ∨ 1024 < z) : pos l = false := by
  unfold pos
  rw [List.all_eq_false]
  refine ⟨z, List.mem_of_getElem? h, ?_⟩
  simp
  omega

set_option maxHeartbeats 1000000 in
theorem positive_any (A : Option Addr) (n c : Nat) (l : List Int) (w : World) (h : RI w A n l) (hn : n ≤ 140737488351232) :
    Calls Tryd.prog 7 #[.slice A n c] w fun e w' => e = .returned (.bool (pos l)) ∧ w = w' := by
  have HB := Lib.hid h
  clear h
  go_enter Tryd.func7, Tryd.ntmps7
  go_wp2_with fail
  go_loopw [3] (fun i wr => ∃ k : Nat, k ≤ n ∧ i = .int .i64 k ∧ Hid (pos (l.take k) = true) ∧ w = wr) (fun i _ => n - (intOf i).toNat)
  case atStart => exact ⟨0, Nat.zero_le _, rfl, by simp [Hid, pos], rfl⟩
  case round =>
    obtain ⟨k, hk, rfl, hp, rfl⟩ := hrel
    by_cases hlt : k < n
    · obtain ⟨b, o, z, rfl, hbs, hl, hcell⟩ := HB.out.at_ hlt
      have HZ := Lib.hid hl
      clear hl
      by_cases h1 : z < 1
      · go_wp2_with fail
        go_ret
        exact ⟨by rw [pos_false l k z HZ.out (.inl h1)]; rfl, rfl⟩
      · by_cases h2 : 1024 < z
        · have h1' : 1 ≤ z := by omega
          go_wp2_with fail
          go_ret
          exact ⟨by rw [pos_false l k z HZ.out (.inr h2)]; rfl, rfl⟩
        · have h1' : 1 ≤ z := by omega
          have h2' : z ≤ 1024 := by omega
          have HN : Hid (pos (l.take (k + 1)) = true) := by rw [Hid, pos_take_succ l k z HZ.out, hp.out]; simp [h1', h2']
          go_wp2_with fail
          go_roundw
          case rel => exact ⟨k + 1, by omega, by go_num, HN, by first | rfl | trivial⟩
          case measure => simp [intOf]; omega
    · have hk2 : k = n := by omega
      subst hk2
      have e : l.take k = l := by rw [← HB.out.len, List.take_length]
      rw [e] at hp
      clear e
      go_wp2_with fail
      go_ret
      exact ⟨by rw [hp.out]; rfl, rfl⟩

/-- The place of the first number that is not 0, or -1. -/
def firstI (l : List Int) : Int := match l.findIdx? (fun z => z != 0) with | some i => (i : Int) | none => -1

theorem firstI_some (l : List Int) (k : Nat) (z : Int) (h : l[k]? = some z) (hz : z ≠ 0) (h0 : ∀ i, i < k → l[i]? = some 0) : firstI l = (k : Int) := by
  have : l.findIdx? (fun z => z != 0) = some k := by
    rw [List.findIdx?_eq_some_iff_getElem]
    obtain ⟨hk, e⟩ := List.getElem?_eq_some_iff.1 h
    refine ⟨hk, by rw [e]; simpa using hz, fun j hj => ?_⟩
    obtain ⟨hj', e'⟩ := List.getElem?_eq_some_iff.1 (h0 j hj)
    rw [e']
    simp
  unfold firstI
  rw [this]
theorem firstI_none (l : List Int) (h0 : ∀ i, i < l.length → l[i]? = some 0) : firstI l = -1 := by
  have : l.findIdx? (fun z => z != 0) = none := by
    rw [List.findIdx?_eq_none_iff]
    intro x hx
    obtain ⟨i, hi, e⟩ := List.mem_iff_getElem.1 hx
    have := h0 i hi
    rw [List.getElem?_eq_getElem hi, e] at this
    simp at this
    simp [this]
  unfold firstI
  rw [this]

set_option maxHeartbeats 1000000 in
theorem first_any (A : Option Addr) (n c : Nat) (l : List Int) (w : World) (h : RI w A n l) (hn : n ≤ 140737488351232) :
    Calls Tryd.prog 13 #[.slice A n c] w fun e w' => e = .returned (.int .i64 (firstI l)) ∧ w = w' := by
  have HB := Lib.hid h
  clear h
  go_enter Tryd.func13, Tryd.ntmps13
  go_wp2_with fail
  go_loopw [3] (fun i wr => ∃ k : Nat, k ≤ n ∧ i = .int .i64 k ∧ Hid (∀ i, i < k → l[i]? = some 0) ∧ w = wr) (fun i _ => n - (intOf i).toNat)
  case atStart => exact ⟨0, Nat.zero_le _, rfl, fun i hi => absurd hi (by omega), rfl⟩
  case round =>
    obtain ⟨k, hk, rfl, hp, rfl⟩ := hrel
    by_cases hlt : k < n
    · obtain ⟨b, o, z, rfl, hbs, hl, hcell⟩ := HB.out.at_ hlt
      have HZ := Lib.hid hl
      clear hl
      by_cases h1 : z = 0
      · subst h1
        have HN : Hid (∀ i, i < k + 1 → l[i]? = some 0) := fun i hi => by
          rcases Nat.lt_or_ge i k with h | h
          · exact hp.out i h
          · obtain rfl : i = k := by omega
            exact HZ.out
        go_wp2_with fail
        go_roundw
        case rel => exact ⟨k + 1, by omega, by go_num, HN, by first | rfl | trivial⟩
        case measure => simp [intOf]; omega
      · have hb : (z == 0) = false := by simpa using h1
        have HF := Lib.hid (firstI_some l k z HZ.out h1 hp.out)
        clear h1
        go_wp2_with fail
        go_ret
        exact ⟨by rw [HF.out]; rfl, rfl⟩
    · have hk2 : k = n := by omega
      subst hk2
      have HF := Lib.hid (firstI_none l (fun i hi => hp.out i (by rw [← HB.out.len]; exact hi)))
      go_wp2_with fail
      go_ret
      exact ⟨by rw [HF.out]; rfl, rfl⟩

end Go.Proofs.YthldocgabpbgmaaDoor
