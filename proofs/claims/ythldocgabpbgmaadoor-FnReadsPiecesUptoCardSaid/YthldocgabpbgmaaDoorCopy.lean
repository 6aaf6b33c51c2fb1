/-
  copy into a stretch of a row, the source nil, empty or not, in the same block too.
-/
import Derived.Test.YthldocgabpbgmaaDoorDecode
import Derived.Test.YthldocgabpbgmaaDoorCut
import Derived.Laws.CopyRow
import Derived.Laws.IdiomCopy
namespace Go.Proofs.YthldocgabpbgmaaDoor
open Go.RowKit Go.Lib
set_option linter.unusedVariables false

theorem sizeB : (Tryd.prog.info? 5).map (·.size) = some 1 := by kernel_rfl

theorem run_copyB (w : World) (T : TypeId) (g o N dl dc : Nat) (f : Nat → Value) (hrow : w.rowIs g T N f) (X : Option Addr) (m c : Nat) (l : List UInt8) (hr : RB w X m l) (k : Nat) (hk : k = min m dl) (hfit : o + k ≤ N) (ty : TypeId) :
    ∃ w', (Builtin.copy_ #[22, 22] ty #[.slice (some ⟨g, o, none⟩) dl dc, .slice X m c]).run Tryd.prog w = .ok (.int .i64 (k : Int)) w' ∧ w'.rowIs g T N (Hx.rowP f o (l.take k)) ∧ w.grownBy w' (some g) := by
  by_cases h0 : k = 0
  · subst h0
    refine ⟨w, run_copy_none (P := Tryd.prog) w 22 22 ty 5 _ X dl dc m c Tryd.underlying22 sizeB hk.symm, hrow.congr (fun j _ => by rw [List.take_zero]; exact Hx.rowP_nil f o j), Hx.grownBy_refl _ _⟩
  · obtain ⟨b, s, rfl, hb, hcell⟩ := hr.2 (by omega)
    obtain ⟨cur, hh, hs, hcur⟩ := hrow
    have hlen : (l.take k).length = k := by rw [List.length_take, hr.1]; omega
    have hl : ((l.take k).map fun x => Value.int .u8 (x.toNat : Int)).length = k := by rw [List.length_map, hlen]
    have hrun := run_copy_row Tryd.prog w 22 22 ty 5 g o dl dc ⟨b, s, none⟩ m c cur T ((l.take k).map fun x => Value.int .u8 (x.toNat : Int)) Tryd.underlying22 sizeB hh
      (by rw [hl]; exact hk) (fun j u hu => by
        rw [List.getElem?_map] at hu
        cases hj : (l.take k)[j]? with
        | none => rw [hj] at hu; cases hu
        | some x =>
          rw [hj] at hu
          simp only [Option.map_some, Option.some.injEq] at hu
          have e2 : (⟨b, s, none⟩ : Addr).add j = ⟨b, s + j, none⟩ := by
            unfold Addr.add
            split
            · rename_i h0; subst h0; simp
            · rfl
          rw [e2, ← hu]
          refine hcell j x ?_
          rw [List.getElem?_take] at hj
          split at hj
          · exact hj
          · cases hj) (by rw [hl]; omega) (fun u hu => by
        obtain ⟨x, _, rfl⟩ := List.mem_map.1 hu
        rfl)
    rw [hl] at hrun
    refine ⟨_, hrun, ⟨_, setRow_heap w g cur _ T _ hh, ?_, fun j hj => ?_⟩, ⟨rfl, rfl, rfl, by simp [World.setRow], fun i _ hne => setRow_other w g i _ (fun e => hne (by rw [e]))⟩⟩
    · simp only [List.size_toArray, List.length_append, List.length_take, List.length_drop, Array.length_toList, hl]
      omega
    · unfold Hx.rowP
      rw [hlen]
      simp only [List.getElem?_toArray]
      by_cases h1 : j < o
      · rw [if_neg (by omega), List.append_assoc, List.getElem?_append_left (by simp; omega), List.getElem?_take, if_pos h1, Array.getElem?_toList]
        exact hcur j hj
      · by_cases h2 : j < o + k
        · rw [if_pos ⟨by omega, h2⟩, List.append_assoc, List.getElem?_append_right (by simp; omega), List.getElem?_append_left (by simp [hr.1]; omega)]
          have e : (cur.toList.take o).length = o := by simp; omega
          rw [e, List.getElem?_map, List.getElem?_eq_getElem (by omega)]
          rfl
        · rw [if_neg (by omega), List.getElem?_append_right (by simp [hr.1]; omega), List.getElem?_drop]
          have e : (cur.toList.take o ++ (l.take k).map fun x => Value.int .u8 (x.toNat : Int)).length = o + k := by simp [hr.1]; omega
          rw [e, show o + k + (j - (o + k)) = j by omega, Array.getElem?_toList]
          exact hcur j hj

section
variable {w : World} {a : Act} {o : Oper} {ops : Array Oper} {rest : List Oper} {Q : Exit → Act → World → Prop} {K : Act → World → Prop}

theorem wp_copyB (s x : Operand)
    (ho : o.op = .call { callee := .builtin .copy, args := #[s, x], argTypes := #[22, 22] })
    (T : TypeId) (g od N dl dc : Nat) (f : Nat → Value) (hs : a.eval s = .slice (some ⟨g, od, none⟩) dl dc) (hrow : w.rowIs g T N f) (X : Option Addr) (m c : Nat) (l : List UInt8) (hx : a.eval x = .slice X m c) (hr : RB w X m l) (k : Nat) (hk : k = min m dl) (hfit : od + k ≤ N)
    (h : ∀ w', w'.rowIs g T N (Hx.rowP f od (l.take k)) → w.grownBy w' (some g) → K (a.put o.dst (.int .i64 (k : Int))) w') : o.wp Tryd.prog a w K Q := by
  obtain ⟨w', hrun, h2, h3⟩ := run_copyB w T g od N dl dc f hrow X m c l hr k hk hfit o.type
  unfold Oper.wp execOp
  simp only [ho, resolve, invoke, builtin, Sem.run_bind, Sem.run_pure, Result.andThen_ok, List.map_toArray, List.map_cons, List.map_nil, hs, hx, hrun]
  exact h w' h2 h3

theorem wpList_copyB (hgd : o.guard = none) (s x : Operand)
    (ho : o.op = .call { callee := .builtin .copy, args := #[s, x], argTypes := #[22, 22] })
    (T : TypeId) (g od N dl dc : Nat) (f : Nat → Value) (hs : a.eval s = .slice (some ⟨g, od, none⟩) dl dc) (hrow : w.rowIs g T N f) (X : Option Addr) (m c : Nat) (l : List UInt8) (hx : a.eval x = .slice X m c) (hr : RB w X m l) (k : Nat) (hk : k = min m dl) (hfit : od + k ≤ N)
    (h : ∀ w', w'.rowIs g T N (Hx.rowP f od (l.take k)) → w.grownBy w' (some g) → wpList Tryd.prog ops Q rest (a.put o.dst (.int .i64 (k : Int))) w') :
    wpList Tryd.prog ops Q (o :: rest) a w :=
  wpList_plain hgd fun _ hK => wp_copyB s x ho T g od N dl dc f hs hrow X m c l hx hr k hk hfit fun w' h2 h3 => hK _ _ (h w' h2 h3)

theorem step_copyB {E : Prop} (hgd : o.guard = none) (s x : Operand)
    (ho : o.op = .call { callee := .builtin .copy, args := #[s, x], argTypes := #[22, 22] })
    (T : TypeId) (g od N dl dc : Nat) (f : Nat → Value) (hs : a.eval s = .slice (some ⟨g, od, none⟩) dl dc) (hrow : w.rowIs g T N f) (X : Option Addr) (m c : Nat) (l : List UInt8) (hx : a.eval x = .slice X m c) (hr : RB w X m l) (k : Nat) (hk : k = min m dl) (hfit : od + k ≤ N)
    (h : ∀ w', w'.rowIs g T N (Hx.rowP f od (l.take k)) → w.grownBy w' (some g) → K (a.put o.dst (.int .i64 (k : Int))) w') :
    if Region.wanted o (yielded ops a.tmps) = true then Oper.wp Tryd.prog o a w K Q else E := by
  have hw : Region.wanted o (yielded ops a.tmps) = true := by simp [Region.wanted, hgd]
  rw [if_pos hw]
  exact wp_copyB s x ho T g od N dl dc f hs hrow X m c l hx hr k hk hfit h
end

end Go.Proofs.YthldocgabpbgmaaDoor
