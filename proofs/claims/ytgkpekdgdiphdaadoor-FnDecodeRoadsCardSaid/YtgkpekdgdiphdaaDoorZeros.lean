/-
  append(s, make([]byte, k)...) onto a row of the call's own.
-/
import Derived.Test.YtgkpekdgdiphdaaDoorGrow
namespace Go.Proofs.YtgkpekdgdiphdaaDoor
open Go.RowKit Go.Lib
set_option linter.unusedVariables false

theorem zeroU8_list (k : Nat) : (Builtin.zeroCells (#[.int .u8 0] : Array Value) k).toList = cellsB (List.replicate k 0) := by
  refine List.ext_getElem? fun i => ?_
  rw [Array.getElem?_toList]
  unfold cellsB
  rw [List.getElem?_map, List.getElem?_replicate]
  by_cases hi : i < k
  · rw [zeroU8_at k i hi, if_pos hi]; rfl
  · rw [if_neg hi, Array.getElem?_eq_none (by rw [size_zeroCells]; simp; omega)]; rfl

theorem run_appZ (w : World) (B n c : Nat) (A : Option Addr) (l : List UInt8) (hown : OB w B A n c l) (k : Nat) (hb : n + k ≤ 211106232532992) (hbase : B ≤ w.heap.size) (ty : TypeId) :
    ∃ A' c' w', (Builtin.append_ #[22, 3] ty #[.slice A n c, .int .i64 (k : Int)]).run Tryd.prog w = .ok (.slice A' (n + k) c') w' ∧ OB w' B A' (n + k) c' (l ++ List.replicate k 0) ∧ w.grownBy w' (A.map (·.block)) := by
  obtain ⟨i0, hi0, hz0, hz1, hz2⟩ := info_parts infoU8
  have hle := hown.le
  have hw : IntKind.i64.wrap (k : Int) = k := by rw [IntKind.wrap_i64]; omega
  have hneg : ¬ ((k : Int) < 0) := by omega
  have h48i : ¬ (281474976710656 < (k : Int)) := by omega
  have hll : (l ++ List.replicate k (0 : UInt8)).length = n + k := by rw [List.length_append, hown.1, List.length_replicate]
  by_cases hr : n + k ≤ c
  · by_cases hk : k = 0
    · subst hk
      refine ⟨A, c, w, ?_, by simpa using hown, World.grownBy.refl w _⟩
      have hn0 := hle.1
      have hw0 : IntKind.i64.wrap 0 = 0 := by decide
      cases A with
      | none => simp [Builtin.append_, run_underlying Tryd.underlying22, run_underlying Tryd.underlying3, sizeOf, typeInfo, hi0, asInt, asIntOf, hw0, hn0]
      | some a => simp [Builtin.append_, run_underlying Tryd.underlying22, run_underlying Tryd.underlying3, sizeOf, typeInfo, hi0, asInt, asIntOf, hw0, hn0, storeCells]
    · rcases hown.2.2 with ⟨he, h0⟩ | ⟨g, cap, cur, hv, hg, hh, hnc, hm, hs, ht⟩
      · injection he with e1 e2 e3
        omega
      · injection hv with e1 e2 e3
        subst e1 e3
        have hst := run_storeCells_at Tryd.prog g n 5 (Builtin.zeroCells (#[.int .u8 0] : Array Value) k).toList 0 cur w hh (by simp [size_zeroCells]; omega) (by
          intro v hv
          rw [zeroU8_list] at hv
          unfold cellsB at hv
          obtain ⟨b, _, rfl⟩ := List.mem_map.1 hv
          rfl)
        simp only [Nat.add_zero] at hst
        have hzl : (Builtin.zeroCells (#[.int .u8 0] : Array Value) k).toList.length = k := by simp [size_zeroCells]
        have hcl : cur.toList.length = c := by simpa using hs
        rw [hzl] at hst
        refine ⟨some ⟨g, 0, none⟩, c, w.setRow g (cur.toList.take n ++ (Builtin.zeroCells (#[.int .u8 0] : Array Value) k).toList ++ cur.toList.drop (n + k)).toArray, ?_, ⟨hll, by unfold cellsB; rw [List.length_map, hll, Nat.mul_one], .inr ⟨g, c, _, rfl, hg, setRow_heap w g cur _ _ _ hh, hr, hm, ?_, ?_⟩⟩, ⟨rfl, rfl, rfl, by simp, fun j _ hj => setRow_other w g j _ (fun e => hj (by rw [e]; rfl))⟩⟩
        · have hzc : (Value.int .u8 0).cells = #[.int .u8 0] := rfl
          simp [Builtin.append_, run_underlying Tryd.underlying22, run_underlying Tryd.underlying3, sizeOf, typeInfo, zeroValue, hi0, hz0, hz1, hz2, asInt, asIntOf, hw, hneg, h48i, hk, hr, Addr.add_lit, hzc, hst]
        · simp only [List.size_toArray, List.length_append, List.length_take, List.length_drop, hzl, hcl]
          omega
        · simp only [Nat.mul_one] at ht ⊢
          rw [List.take_left' (by rw [List.length_append, List.length_take, hzl, hcl]; omega), ht, zeroU8_list]
          unfold cellsB
          rw [List.map_append]
  · have hk : 0 < k := by omega
    have main : ∀ (cs : List Value) (f : Nat → Value), cs.length = n → (∀ i, i < n → cs[i]? = some (f i)) → (A = none → n = 0) → (∀ a, A = some a → ∀ j v, cs[j]? = some v → w.cell? (a.add j) = some v) → (∀ i b, l[i]? = some b → f i = .int .u8 (b.toNat : Int)) →
        ∃ A' c' w', (Builtin.append_ #[22, 3] ty #[.slice A n c, .int .i64 (k : Int)]).run Tryd.prog w = .ok (.slice A' (n + k) c') w' ∧ OB w' B A' (n + k) c' (l ++ List.replicate k 0) ∧ w.grownBy w' (A.map (·.block)) := by
      intro cs f hcs hf hnil hcell hl
      have hold : (Builtin.firstCells i0.size n (.slice A n c)).run Tryd.prog w.drew = .ok cs.toArray w.drew := by
        cases A with
        | none =>
          have h0 := hnil rfl
          subst h0
          have hc0 : cs = [] := List.length_eq_zero_iff.1 hcs
          rw [hc0]
          exact run_firstCells_none w.drew i0.size 0 0 c
        | some a => exact run_firstCells_some w.drew i0.size n a n c cs (by rw [hz1]; omega) (fun j v hj => hcell a rfl j v hj)
      have h := Lib.run_append_grow_zeros (P := Tryd.prog) w 22 3 ty 5 i0 (.int .u8 0) .i64 .i64 Tryd.underlying22 Tryd.underlying3 hi0 hz0 A n c cs hold k (by omega) (by omega) (by omega) (by omega)
        (by rw [hz2]; omega) (by rw [hz2, Nat.mul_one]; exact fitsBig (by omega) (by omega))
      have hG1 : n + k ≤ grownCap w (n + k) c 5 := grownCap_ge w _ _ _
      have hG2 := grownCap_le_maxLen w (n + k) c 5 (by unfold maxLen; omega)
      have hrow := grown_row w cs 5 n hcs f hf k (grownCap w (n + k) c 5 - (n + k))
      rw [show n + k + (grownCap w (n + k) c 5 - (n + k)) = grownCap w (n + k) c 5 by omega] at hrow
      refine ⟨_, _, _, h, OB.ofRow_ hll hbase hG1 hG2 hrow (fun i b hb => ?_), ⟨rfl, rfl, rfl, by simp, fun j hj _ => ((Below.refl w.heap.size w).drew.alloc (Nat.le_refl _) _).block j hj⟩⟩
      by_cases hi : i < n
      · rw [if_pos hi]
        rw [List.getElem?_append_left (by rw [hown.1]; exact hi)] at hb
        exact hl i b hb
      · rw [if_neg hi]
        rw [List.getElem?_append_right (by rw [hown.1]; omega), List.getElem?_replicate] at hb
        split at hb
        · injection hb with hb
          subst hb
          rfl
        · cases hb
    rcases hown.cases_ with ⟨rfl, rfl, rfl, rfl⟩ | ⟨g, f, rfl, hg, hn1, hc1, hrow, hf⟩
    · exact main [] (fun _ => .int .u8 0) rfl (fun i hi => absurd hi (by omega)) (fun _ => rfl) (fun a e => by cases e) (fun i b hb => by simp at hb)
    · refine main ((List.range n).map f) f (by simp) (fun i hi => by simp [hi]) (fun e => by cases e) (fun a e j v hv => ?_) hf
      injection e with e
      subst e
      rw [List.getElem?_map] at hv
      by_cases hj : j < n
      · simp [hj] at hv
        have e2 : (⟨g, 0, none⟩ : Addr).add j = ⟨g, j, none⟩ := by
          unfold Addr.add
          split
          · rename_i h0; subst h0; simp
          · simp
        rw [e2, hrow.cell (by omega), hv]
      · simp [hj] at hv

section
variable {w : World} {a : Act} {o : Oper} {ops : Array Oper} {rest : List Oper} {Q : Exit → Act → World → Prop}

theorem wpList_appZ (N : Nat) (hgd : o.guard = none) (s x : Operand)
    (ho : o.op = .call { callee := .builtin .append, args := #[s, x], argTypes := #[22, 3] })
    (B n c : Nat) (A : Option Addr) (l : List UInt8) (hs : a.eval s = .slice A n c) (hown : OB w B A n c l) (k : Nat) (hx : a.eval x = .int .i64 (k : Int)) (hN : n + k = N) (hb : N ≤ 211106232532992) (hbase : B ≤ w.heap.size)
    (h : ∀ A' c' w', OB w' B A' N c' (l ++ List.replicate k 0) → w.grownBy w' (A.map (·.block)) → wpList Tryd.prog ops Q rest (a.put o.dst (.slice A' N c')) w') :
    wpList Tryd.prog ops Q (o :: rest) a w :=
  wpList_plain hgd fun K hK => by
    subst hN
    obtain ⟨A', c', w', hrun, h2, h3⟩ := run_appZ w B n c A l hown k hb hbase o.type
    unfold Oper.wp execOp
    simp only [ho, resolve, invoke, builtin, Sem.run_bind, Sem.run_pure, Result.andThen_ok, List.map_toArray, List.map_cons, List.map_nil, hs, hx, hrun]
    exact hK _ _ (h A' c' w' h2 h3)
end

end Go.Proofs.YtgkpekdgdiphdaaDoor
