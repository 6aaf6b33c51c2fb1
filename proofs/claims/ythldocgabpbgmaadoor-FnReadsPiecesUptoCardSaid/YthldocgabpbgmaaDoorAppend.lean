/-
  append onto a row of bytes that the call itself has made ('OB'), the source nil, empty or not.
-/
import Derived.Test.YthldocgabpbgmaaDoorEncode
import Derived.Maps.AppendAt
import Derived.OwnWalk
import Derived.RegionTactic
namespace Go.Proofs.YthldocgabpbgmaaDoor
open Go.RowKit Go.Lib
set_option linter.unusedVariables false

def cellsB (l : List UInt8) : List Value := l.map fun b => Value.int .u8 (b.toNat : Int)

/-- The slice (A, n, c) owns the bytes l, in a block from B on. -/
def OB (w : World) (B : Nat) (A : Option Addr) (n c : Nat) (l : List UInt8) : Prop :=
  l.length = n ∧ w.ownsRow B 5 1 (.slice A n c) n (cellsB l)

section
variable {w w' : World} {B n c : Nat} {A : Option Addr} {l : List UInt8}

theorem OB.nil_ (w : World) (B : Nat) : OB w B none 0 0 [] := ⟨rfl, by simp [cellsB], .inl ⟨rfl, rfl⟩⟩

theorem OB.made (w : World) (B : Nat) (hB : B ≤ w.heap.size) (cs : Array Value) (hs : cs.size ≤ maxLen) : OB (w.alloc (.cells cs 5)) B (some ⟨w.heap.size, 0, none⟩) 0 cs.size [] :=
  ⟨rfl, World.ownsRow_made w cs cs.size hB hs (by simp)⟩

theorem OB.rb (h : OB w B A n c l) : RB w A n l := by
  refine ⟨h.1, fun hn => ?_⟩
  rcases h.2.2 with ⟨he, h0⟩ | ⟨g, cap, cur, hv, hg, hh, hnc, hm, hs, ht⟩
  · omega
  · injection hv with hA hn' hc
    subst hA
    refine ⟨g, 0, rfl, ?_, fun i b hi => ?_⟩
    · rcases Nat.lt_or_ge g w.heap.size with h' | h'
      · exact h'
      · rw [Array.getElem?_eq_none h'] at hh; cases hh
    · have hc := h.2.cells (g := g) rfl i (.int .u8 (b.toNat : Int)) (by unfold cellsB; rw [List.getElem?_map, hi]; rfl)
      have e2 : (⟨g, 0, none⟩ : Addr).add i = ⟨g, 0 + i, none⟩ := by
        unfold Addr.add
        split
        · rename_i h0; subst h0; simp
        · rfl
      rw [e2] at hc
      exact hc

theorem OB.le (h : OB w B A n c l) : n ≤ c ∧ c ≤ maxLen := by
  rcases h.2.2 with ⟨he, h0⟩ | ⟨g, cap, cur, hv, hg, hh, hnc, hm, hs, ht⟩
  · injection he with _ h1 h2; subst h2; omega
  · injection hv with _ _ hc; subst hc; exact ⟨hnc, hm⟩

theorem OB.len (h : OB w B A n c l) : l.length = n := h.1

theorem OB.block (h : OB w B A n c l) : ∀ b o, A = some ⟨b, o, none⟩ → B ≤ b ∧ b < w.heap.size := by
  intro b o e
  subst e
  exact h.2.lt b rfl

theorem OB.kept {row : Option Nat} (h : OB w B A n c l) (hg : w.grownBy w' row) (hne : ∀ b o, A = some ⟨b, o, none⟩ → row ≠ some b) : OB w' B A n c l := by
  refine ⟨h.1, h.2.kept hg ?_⟩
  rcases h.2.2 with ⟨he, _⟩ | ⟨g, cap, cur, hv, _⟩
  · injection he with e1; subst e1; exact .inl rfl
  · injection hv with e1; subst e1; exact .inr (fun e => hne g 0 rfl e.symm)

theorem OB.below (h : OB w B A n c l) (hb : Below w.heap.size w w') : OB w' B A n c l :=
  h.kept (row := none) ⟨hb.os, hb.tape, hb.output, hb.size, fun i hi _ => hb.block i hi⟩ (fun _ _ _ e => by cases e)
theorem OB.alloc (h : OB w B A n c l) (o : Obj) : OB (w.alloc o) B A n c l := ⟨h.1, h.2.alloc o⟩
theorem OB.drew (h : OB w B A n c l) : OB w.drew B A n c l := h
end

/-- One byte, in a block of its own. -/
theorem RB.one (w : World) (b : UInt8) : RB (w.alloc (.cells #[.int .u8 (b.toNat : Int)] 5)) (some ⟨w.heap.size, 0, none⟩) 1 [b] :=
  ⟨rfl, fun _ => ⟨w.heap.size, 0, rfl, by simp, fun i c hi => by
    cases i with
    | zero => simp at hi; subst hi; rw [cell_of_row _ _ _ _ _ (0, 0) (heap_alloc_new w _)]; rfl
    | succ i => simp at hi⟩⟩

theorem RB.two (w : World) (b d : UInt8) : RB (w.alloc (.cells #[.int .u8 (b.toNat : Int), .int .u8 (d.toNat : Int)] 5)) (some ⟨w.heap.size, 0, none⟩) 2 [b, d] :=
  ⟨rfl, fun _ => ⟨w.heap.size, 0, rfl, by simp, fun i c hi => by
    match i with
    | 0 => simp at hi; subst hi; rw [cell_of_row _ _ _ _ _ (0, 0) (heap_alloc_new w _)]; rfl
    | 1 => simp at hi; subst hi; rw [cell_of_row _ _ _ _ _ (0, 0) (heap_alloc_new w _)]; rfl
    | i + 2 => simp at hi⟩⟩

theorem run_appB (w : World) (B n c : Nat) (A : Option Addr) (l : List UInt8) (hown : OB w B A n c l) (X : Option Addr) (m d : Nat) (news : List UInt8) (hr : RB w X m news) (hb : n + m ≤ 140737488355328) (hbase : B ≤ w.heap.size) (ty : TypeId) :
    ∃ A' c' w', (Builtin.append_ #[22, 22] ty #[.slice A n c, .slice X m d]).run Tryd.prog w = .ok (.slice A' (n + m) c') w' ∧ OB w' B A' (n + m) c' (l ++ news) ∧ w.grownBy w' (A.map (·.block)) ∧
      (A'.map (·.block) = A.map (·.block) ∨ A'.map (·.block) = some w.heap.size) := by
  obtain ⟨i0, hi, hz0, hz1, hz2⟩ := info_parts infoU8
  have hbk : ∀ (Y : Option Addr) (p q : Nat), Value.ownBlock (.slice Y p q) = Y.map (·.block) := fun Y p q => by cases Y <;> rfl
  cases X with
  | none =>
    have hm : m = 0 := by
      rcases Nat.eq_zero_or_pos m with h0 | h0
      · exact h0
      · obtain ⟨b, o, e, _⟩ := hr.2 h0; cases e
    subst hm
    have hn : news = [] := List.eq_nil_of_length_eq_zero hr.1
    subst hn
    refine ⟨A, c, w, ?_, by simpa using hown, World.grownBy.refl w _, .inl rfl⟩
    have hu := run_underlying Tryd.underlying22
    have hle := hown.le.1
    cases A with
    | none =>
      rcases hown.2.2 with ⟨he, h0⟩ | ⟨g, cap, cur, hv, _⟩
      · injection he with _ h1 h2
        subst h1 h2
        simp [Builtin.append_, hu, sizeOf, typeInfo, hi, Builtin.lenOf, Builtin.firstCells]
      · injection hv with hv; cases hv
    | some g => simp [Builtin.append_, hu, sizeOf, typeInfo, hi, Builtin.lenOf, Builtin.firstCells, hle, storeCells]
  | some ad =>
    have hcells : ∀ j u, (cellsB news)[j]? = some u → w.cell? (ad.add j) = some u := by
      intro j u hu
      unfold cellsB at hu
      rw [List.getElem?_map] at hu
      cases hj : news[j]? with
      | none => rw [hj] at hu; cases hu
      | some b =>
        rw [hj] at hu
        simp only [Option.map_some, Option.some.injEq] at hu
        have hlt := (List.getElem?_eq_some_iff.1 hj).1
        obtain ⟨b0, o0, e, _, hc⟩ := hr.2 (by rw [← hr.1]; omega)
        injection e with e
        subst e
        rw [← hu]
        have e2 : (⟨b0, o0, none⟩ : Addr).add j = ⟨b0, o0 + j, none⟩ := by
          unfold Addr.add
          split
          · rename_i h0; subst h0; simp
          · rfl
        rw [e2]
        exact hc j b hj
    obtain ⟨v', w', hrun, h2, h3, _, h5⟩ := run_append_own_at (P := Tryd.prog) w B 22 ty 5 i0 _ 1 1 Tryd.underlying22 hi hz0 hz1 hz2 rfl (by omega) (.slice A n c) n (cellsB l) hown.2 ad m d (cellsB news)
      (by unfold cellsB; rw [List.length_map, hr.1]; omega) hcells (fun u hu => by
        unfold cellsB at hu
        obtain ⟨b, _, rfl⟩ := List.mem_map.1 hu
        rfl) (by simp only [maxLen]; omega) (by omega) hbase
    have hform : ∃ A' c', v' = .slice A' (n + m) c' := by
      rcases h2.2 with ⟨e, h0⟩ | ⟨g, cap, cur, e, _⟩
      · exact ⟨none, 0, by rw [e, h0]⟩
      · exact ⟨_, _, e⟩
    obtain ⟨A', c', rfl⟩ := hform
    rw [hbk] at h3 h5
    rw [hbk] at h5
    refine ⟨A', c', w', hrun, ⟨by rw [List.length_append, hown.1, hr.1], ?_⟩, h3, h5⟩
    have e : cellsB l ++ cellsB news = cellsB (l ++ news) := by unfold cellsB; rw [List.map_append]
    rw [← e]
    exact h2

section
variable {w : World} {a : Act} {o : Oper} {ops : Array Oper} {rest : List Oper} {Q : Exit → Act → World → Prop} {K : Act → World → Prop}

theorem wp_appB (s x : Operand)
    (ho : o.op = .call { callee := .builtin .append, args := #[s, x], argTypes := #[22, 22] })
    (B n c : Nat) (A : Option Addr) (l : List UInt8) (hs : a.eval s = .slice A n c) (hown : OB w B A n c l) (X : Option Addr) (m d : Nat) (news : List UInt8) (hx : a.eval x = .slice X m d) (hr : RB w X m news) (hb : n + m ≤ 140737488355328) (hbase : B ≤ w.heap.size)
    (h : ∀ A' c' w', OB w' B A' (n + m) c' (l ++ news) → w.grownBy w' (A.map (·.block)) → (A'.map (·.block) = A.map (·.block) ∨ A'.map (·.block) = some w.heap.size) → K (a.put o.dst (.slice A' (n + m) c')) w') : o.wp Tryd.prog a w K Q := by
  obtain ⟨A', c', w', hrun, h2, h3, h4⟩ := run_appB w B n c A l hown X m d news hr hb hbase o.type
  unfold Oper.wp execOp
  simp only [ho, resolve, invoke, builtin, Sem.run_bind, Sem.run_pure, Result.andThen_ok, List.map_toArray, List.map_cons, List.map_nil, hs, hx, hrun]
  exact h A' c' w' h2 h3 h4

theorem wpList_appB (hgd : o.guard = none) (s x : Operand)
    (ho : o.op = .call { callee := .builtin .append, args := #[s, x], argTypes := #[22, 22] })
    (B n c : Nat) (A : Option Addr) (l : List UInt8) (hs : a.eval s = .slice A n c) (hown : OB w B A n c l) (X : Option Addr) (m d : Nat) (news : List UInt8) (hx : a.eval x = .slice X m d) (hr : RB w X m news) (hb : n + m ≤ 140737488355328) (hbase : B ≤ w.heap.size)
    (h : ∀ A' c' w', OB w' B A' (n + m) c' (l ++ news) → w.grownBy w' (A.map (·.block)) → (A'.map (·.block) = A.map (·.block) ∨ A'.map (·.block) = some w.heap.size) → wpList Tryd.prog ops Q rest (a.put o.dst (.slice A' (n + m) c')) w') :
    wpList Tryd.prog ops Q (o :: rest) a w :=
  wpList_plain hgd fun _ hK => wp_appB s x ho B n c A l hs hown X m d news hx hr hb hbase fun A' c' w' h2 h3 h4 => hK _ _ (h A' c' w' h2 h3 h4)

theorem wpList_appBg (hw : Region.wanted o (yielded ops a.tmps) = true) (s x : Operand)
    (ho : o.op = .call { callee := .builtin .append, args := #[s, x], argTypes := #[22, 22] })
    (B n c : Nat) (A : Option Addr) (l : List UInt8) (hs : a.eval s = .slice A n c) (hown : OB w B A n c l) (X : Option Addr) (m d : Nat) (news : List UInt8) (hx : a.eval x = .slice X m d) (hr : RB w X m news) (hb : n + m ≤ 140737488355328) (hbase : B ≤ w.heap.size)
    (h : ∀ A' c' w', OB w' B A' (n + m) c' (l ++ news) → w.grownBy w' (A.map (·.block)) → (A'.map (·.block) = A.map (·.block) ∨ A'.map (·.block) = some w.heap.size) → wpList Tryd.prog ops Q rest (a.put o.dst (.slice A' (n + m) c')) w') :
    wpList Tryd.prog ops Q (o :: rest) a w :=
  wpList_step fun K hK => by
    rw [if_pos hw]
    exact wp_appB s x ho B n c A l hs hown X m d news hx hr hb hbase fun A' c' w' h2 h3 h4 => hK _ _ (h A' c' w' h2 h3 h4)

theorem step_appB {E : Prop} (hgd : o.guard = none) (s x : Operand)
    (ho : o.op = .call { callee := .builtin .append, args := #[s, x], argTypes := #[22, 22] })
    (B n c : Nat) (A : Option Addr) (l : List UInt8) (hs : a.eval s = .slice A n c) (hown : OB w B A n c l) (X : Option Addr) (m d : Nat) (news : List UInt8) (hx : a.eval x = .slice X m d) (hr : RB w X m news) (hb : n + m ≤ 140737488355328) (hbase : B ≤ w.heap.size)
    (h : ∀ A' c' w', OB w' B A' (n + m) c' (l ++ news) → w.grownBy w' (A.map (·.block)) → (A'.map (·.block) = A.map (·.block) ∨ A'.map (·.block) = some w.heap.size) → K (a.put o.dst (.slice A' (n + m) c')) w') :
    if Region.wanted o (yielded ops a.tmps) = true then Oper.wp Tryd.prog o a w K Q else E := by
  have hw : Region.wanted o (yielded ops a.tmps) = true := by simp [Region.wanted, hgd]
  rw [if_pos hw]
  exact wp_appB s x ho B n c A l hs hown X m d news hx hr hb hbase h
end

/-- A row of the call's own is written: what lay below B stands. -/
theorem below_app {B0 B : Nat} {w0 w w' : World} {A : Option Addr} (hb : Below B0 w0 w) (hg : w.grownBy w' (A.map (·.block))) (hB : B0 ≤ w.heap.size) (hA : ∀ b o, A = some ⟨b, o, none⟩ → B0 ≤ b) (hs : ∀ x, A = some x → x.spot = none) : Below B0 w0 w' :=
  hb.grown hg hB (fun k hk => by
    cases A with
    | none => cases hk
    | some x =>
      obtain ⟨b, o, sp⟩ := x
      have := hs _ rfl
      simp only at this
      subst this
      simp only [Option.map_some, Option.some.injEq] at hk
      subst hk
      exact hA _ _ rfl)

theorem OB.spot {w : World} {B n c : Nat} {A : Option Addr} {l : List UInt8} (h : OB w B A n c l) : ∀ x, A = some x → x.spot = none := by
  intro x e
  subst e
  rcases h.2.2 with ⟨he, _⟩ | ⟨g, cap, cur, hv, _⟩
  · injection he with e; cases e
  · injection hv with e; injection e with e; rw [e]

/-- The same, said of an owned row. -/
theorem OB.grows {B0 B n c : Nat} {w0 w w' : World} {A : Option Addr} {l : List UInt8} (h : OB w B A n c l) (hb : Below B0 w0 w) (hg : w.grownBy w' (A.map (·.block))) (hB : B0 ≤ B) (hw : B0 ≤ w.heap.size) : Below B0 w0 w' :=
  below_app (B := B) hb hg hw (fun b o e => Nat.le_trans hB (h.block b o e).1) h.spot

end Go.Proofs.YthldocgabpbgmaaDoor
