/-
  Contract: slices.Grow at []byte, the row the call's own.
-/
import Derived.Test.YtgkpekdgdiphdaaDoorClone
import Derived.Test.YtgkpekdgdiphdaaDoorCut
import Derived.Lib.AppendZerosOnto
namespace Go.Proofs.YtgkpekdgdiphdaaDoor
open Go.RowKit Go.Lib
set_option linter.unusedVariables false

theorem OB.to_ {w : World} {B n c k : Nat} {A : Option Addr} {l : List UInt8} (h : OB w B A n c l) (hk : k ≤ n) : OB w B A k c (l.take k) := by
  rcases h.cases_ with ⟨rfl, rfl, rfl, rfl⟩ | ⟨g, f, rfl, hg, hn, hc, hrow, hf⟩
  · obtain rfl : k = 0 := by omega
    exact OB.nil_ _ _
  · refine OB.ofRow_ (by rw [List.length_take, h.1]; omega) hg (by omega) hc hrow (fun i b hb => hf i b ?_)
    rw [List.getElem?_take] at hb
    split at hb
    · exact hb
    · cases hb

set_option maxHeartbeats 1000000 in
theorem grow_room (A : Option Addr) (n c m : Nat) (w : World) (hn : n ≤ c) (hc : c ≤ 9223372036854775807) (hroom : n + m ≤ c) :
    Calls Tryd.prog 24 #[.slice A n c, .int .i64 (m : Int)] w fun e w' => e = .returned (.slice A n c) ∧ w = w' := by
  have h1 : ¬ ((m : Int) < 0) := by omega
  have h4 : ¬ ((0 : Int) < (m : Int) - ((c : Int) - (n : Int))) := by omega
  go_enter Tryd.func24, Tryd.ntmps24
  go_wp2
  go_ret
  exact ⟨rfl, rfl⟩

theorem zeroU8_at (p i : Nat) (hi : i < p) : (Builtin.zeroCells (#[.int .u8 0] : Array Value) p)[i]? = some (.int .u8 0) := by
  unfold Builtin.zeroCells
  rw [Array.getElem?_map]
  simp [hi, Nat.mod_one]

theorem grown_row (w : World) (cs : List Value) (t : TypeId) (k : Nat) (hl : cs.length = k) (f : Nat → Value) (hf : ∀ i, i < k → cs[i]? = some (f i)) (p q : Nat) :
    (w.drew.alloc (.cells (cs.toArray ++ Builtin.zeroCells #[.int .u8 0] p ++ Builtin.zeroCells #[.int .u8 0] q) t)).rowIs w.heap.size t (k + p + q) (fun i => if i < k then f i else .int .u8 0) := by
  refine ⟨_, heap_alloc_new w.drew _, by simp [size_zeroCells, hl]; omega, fun i hi => ?_⟩
  show _ = some (if i < k then f i else .int .u8 0)
  have h1 : (Builtin.zeroCells (#[.int .u8 0] : Array Value) p).size = p := by rw [size_zeroCells]; simp
  have h2 : (Builtin.zeroCells (#[.int .u8 0] : Array Value) q).size = q := by rw [size_zeroCells]; simp
  have h3 : cs.toArray.size = k := by simpa using hl
  by_cases hk : i < k
  · rw [Array.getElem?_append_left (by rw [Array.size_append]; omega), Array.getElem?_append_left (by omega), List.getElem?_toArray, hf i hk, if_pos hk]
  · rw [if_neg hk]
    by_cases hp : i < k + p
    · rw [Array.getElem?_append_left (by rw [Array.size_append]; omega), Array.getElem?_append_right (by omega), h3, zeroU8_at _ _ (by omega)]
    · rw [Array.getElem?_append_right (by rw [Array.size_append]; omega), Array.size_append, h3, h1, zeroU8_at _ _ (by omega)]

set_option maxHeartbeats 2000000 in
theorem grow_more (base : Option Addr) (l c n : Nat) (cs : List Value) (w : World) (hlc : l ≤ c) (hroom : c < l + n) (hbig : l + n ≤ 211106232532992)
    (hcl : cs.length = c) (hnil : base = none → c = 0) (hcs : ∀ a, base = some a → ∀ j v, cs[j]? = some v → w.cell? (a.add j) = some v) :
    Calls Tryd.prog 24 #[.slice base l c, .int .i64 (n : Int)] w fun e w' => ∃ G, l + n ≤ G ∧ G ≤ maxLen ∧
      e = .returned (.slice (some ⟨w.heap.size, 0, none⟩) l G) ∧
      w' = w.drew.alloc (.cells (cs.toArray ++ Builtin.zeroCells #[.int .u8 0] (l + n - c) ++ Builtin.zeroCells #[.int .u8 0] (G - (l + n))) 5) := by
  obtain ⟨i0, hi0, hz0, hz1, hz2⟩ := info_parts infoU8
  have h1 : ¬ ((n : Int) < 0) := by omega
  have h4 : (0 : Int) < (n : Int) - ((c : Int) - (l : Int)) := by omega
  have hck : c + (l + n - c) = l + n := by omega
  have hold : (Builtin.firstCells i0.size c (.slice base c c)).run Tryd.prog w.drew = .ok cs.toArray w.drew := by
    cases base with
    | none =>
      have h0 := hnil rfl
      subst h0
      have hc0 : cs = [] := List.length_eq_zero_iff.1 hcl
      rw [hc0]
      exact run_firstCells_none w.drew i0.size 0 0 0
    | some a => exact run_firstCells_some w.drew i0.size c a c c cs (by rw [hz1]; omega) (fun j v hj => hcs a rfl j v hj)
  have hrz : ∀ ty, (Builtin.append_ #[22, 3] ty #[.slice base c c, .int .i64 ((n : Int) - ((c : Int) - (l : Int)))]).run Tryd.prog w =
      .ok (.slice (some ⟨w.heap.size, 0, none⟩) (l + n) (grownCap w (l + n) c 5)) (w.drew.alloc (.cells (cs.toArray ++ Builtin.zeroCells #[.int .u8 0] (l + n - c) ++ Builtin.zeroCells #[.int .u8 0] (grownCap w (l + n) c 5 - (l + n))) 5)) := fun ty => by
    have h := Lib.run_append_grow_zeros (P := Tryd.prog) w 22 3 ty 5 i0 (.int .u8 0) .i64 .i64 Tryd.underlying22 Tryd.underlying3 hi0 hz0 base c c cs hold (l + n - c) (by omega) (by omega) (by omega) (by omega)
      (by rw [hz2]; omega)
      (by rw [hck]; exact (by rw [hz2, Nat.mul_one]; exact fitsBig hroom (by omega)))
    rw [hck] at h
    rw [show (n : Int) - ((c : Int) - (l : Int)) = ((l + n - c : Nat) : Int) by omega]
    exact h
  have hGn : l + n ≤ grownCap w (l + n) c 5 := grownCap_ge w _ _ _
  obtain ⟨G, hG⟩ : ∃ G, G = grownCap w (l + n) c 5 := ⟨_, rfl⟩
  rw [← hG] at hrz hGn
  have hG63 : G ≤ 9223372036854775807 := by
    have := grownCap_le_maxLen w (l + n) c 5 (by unfold maxLen; omega)
    rw [← hG] at this
    unfold maxLen at this
    omega
  clear hold hck hG hcs hcl hi0 hz0 hz1 hz2
  go_enter Tryd.func24, Tryd.ntmps24
  cases base with
  | none =>
    have h0 := hnil rfl
    subst h0
    obtain rfl : l = 0 := by omega
    go_wp2_with (at_builtin; refine Lib.wpList_append_run _ rfl _ _ _ _ rfl _ _ rfl rfl _ _ (hrz _) ?_)
    all_goals (go_ret; exact ⟨G, by omega, by unfold maxLen; omega, rfl, rfl⟩)
  | some a =>
    obtain ⟨ab, ao, asp⟩ := a
    go_wp2_with (at_builtin; refine Lib.wpList_append_run _ rfl _ _ _ _ rfl _ _ rfl rfl _ _ (hrz _) ?_)
    all_goals (go_ret; exact ⟨G, hGn, by unfold maxLen; omega, rfl, rfl⟩)

/-- slices.Grow of a row of the call's own. -/
theorem slicesGrow (B n c m : Nat) (A : Option Addr) (l : List UInt8) (w : World) (hO : OB w B A n c l) (hB : B ≤ w.heap.size) (hbig : n + m ≤ 211106232532992) :
    Calls Tryd.prog 24 #[.slice A n c, .int .i64 (m : Int)] w fun e w' => ∃ A' c', e = .returned (.slice A' n c') ∧ n + m ≤ c' ∧ c' ≤ 9223372036854775807 ∧ OB w' B A' n c' l ∧ w.grownBy w' none := by
  have hle := hO.le
  simp only [maxLen] at hle
  by_cases hr : n + m ≤ c
  · refine (grow_room A n c m w hle.1 (by omega) hr).mono ?_
    rintro e w' ⟨rfl, rfl⟩
    exact ⟨A, c, rfl, hr, by omega, hO, World.grownBy.refl _ _⟩
  · have main : ∀ (cs : List Value) (f : Nat → Value), cs.length = c → (∀ i, i < c → cs[i]? = some (f i)) → (A = none → c = 0) → (∀ a, A = some a → ∀ j v, cs[j]? = some v → w.cell? (a.add j) = some v) → (∀ i b, l[i]? = some b → f i = .int .u8 (b.toNat : Int)) →
        Calls Tryd.prog 24 #[.slice A n c, .int .i64 (m : Int)] w fun e w' => ∃ A' c', e = .returned (.slice A' n c') ∧ n + m ≤ c' ∧ c' ≤ 9223372036854775807 ∧ OB w' B A' n c' l ∧ w.grownBy w' none := by
      intro cs f hcs hf hnil hcell hl
      refine (grow_more A n c m cs w hle.1 (by omega) hbig hcs hnil hcell).mono ?_
      rintro e w' ⟨G, hG1, hG2, rfl, rfl⟩
      have hrow := grown_row w cs 5 c hcs f hf (n + m - c) (G - (n + m))
      rw [show c + (n + m - c) + (G - (n + m)) = G by omega] at hrow
      have hG2' := hG2
      simp only [maxLen] at hG2'
      refine ⟨_, G, rfl, hG1, by omega, OB.ofRow_ hO.1 hB (by omega) hG2 hrow (fun i b hb => ?_), ?_⟩
      · have hi := (List.getElem?_eq_some_iff.1 hb).1
        rw [hO.1] at hi
        rw [if_pos (by omega)]
        exact hl i b hb
      · exact ⟨rfl, rfl, rfl, by simp, fun k hk _ => ((Below.refl w.heap.size w).drew.alloc (Nat.le_refl _) _).block k hk⟩
    rcases hO.cases_ with ⟨rfl, rfl, rfl, rfl⟩ | ⟨g, f, rfl, hg, hn1, hc1, hrow, hf⟩
    · exact main [] (fun _ => .int .u8 0) rfl (fun i hi => absurd hi (by omega)) (fun _ => rfl) (fun a e => by cases e) (fun i b hb => by simp at hb)
    · refine main ((List.range c).map f) f (by simp) (fun i hi => by simp [hi]) (fun e => by cases e) (fun a e j v hv => ?_) hf
      injection e with e
      subst e
      rw [List.getElem?_map] at hv
      by_cases hj : j < c
      · simp [hj] at hv
        have e2 : (⟨g, 0, none⟩ : Addr).add j = ⟨g, j, none⟩ := by
          unfold Addr.add
          split
          · rename_i h0; subst h0; simp
          · simp
        rw [e2, hrow.cell hj, hv]
      · simp [hj] at hv

end Go.Proofs.YtgkpekdgdiphdaaDoor
