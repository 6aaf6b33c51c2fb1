/-
  append of one value onto a row that the call itself has made ('OV': slices of bytes, ints); a buffer that was read into ('EL').
-/
import Derived.Test.YthldocgabpbgmaaDoorDec
import Derived.Test.YthldocgabpbgmaaDoorInts
namespace Go.Proofs.YthldocgabpbgmaaDoor
open Go.RowKit Go.Lib
set_option linter.unusedVariables false

/-- Block b holds cells of type T. -/
def Typ (w : World) (T : TypeId) (b : Nat) : Prop := ∃ cs fz, w.heap[b]? = some (.cells cs T fz)
theorem Typ.one {w : World} {T R : TypeId} {b : Nat} (h : Typ w T b) (k : Typ w R b) : T = R := by
  obtain ⟨cs, fz, h⟩ := h
  obtain ⟨cs', fz', k⟩ := k
  rw [h] at k
  injection k with k
  injection k with _ k2
theorem Typ.row {w : World} {T b N : Nat} {f : Nat → Value} (h : w.rowIs b T N f) : Typ w T b := by
  obtain ⟨c, h1, _⟩ := h
  exact ⟨c, _, h1⟩
theorem Typ.lt {w : World} {T : TypeId} {b : Nat} (h : Typ w T b) : b < w.heap.size := by
  obtain ⟨cs, fz, h⟩ := h
  exact (Array.getElem?_eq_some_iff.1 h).1

/-- The slice (A, n, c) owns the values vs, in a block of type T from B on. -/
def OV (w : World) (B : Nat) (T : TypeId) (A : Option Addr) (n c : Nat) (vs : List Value) : Prop :=
  vs.length = n ∧ w.ownsRow B T 1 (.slice A n c) n vs

section
variable {w w' : World} {B n c : Nat} {T : TypeId} {A : Option Addr} {vs : List Value}

theorem OV.made (w : World) (B : Nat) (T : TypeId) (hB : B ≤ w.heap.size) : OV (w.alloc (.cells #[] T)) B T (some ⟨w.heap.size, 0, none⟩) 0 0 [] :=
  ⟨rfl, World.ownsRow_made w #[] 0 hB (by decide) (by simp)⟩
theorem OV.len (h : OV w B T A n c vs) : vs.length = n := h.1
theorem OV.le (h : OV w B T A n c vs) : n ≤ c ∧ c ≤ maxLen := by
  rcases h.2.2 with ⟨he, h0⟩ | ⟨g, cap, cur, hv, hg, hh, hnc, hm, hs, ht⟩
  · injection he with _ h1 h2; subst h2; omega
  · injection hv with _ _ hc; subst hc; exact ⟨hnc, hm⟩
theorem OV.typ (h : OV w B T A n c vs) : ∀ b o, A = some ⟨b, o, none⟩ → B ≤ b ∧ Typ w T b := by
  intro b o e
  subst e
  rcases h.2.2 with ⟨he, h0⟩ | ⟨g, cap, cur, hv, hg, hh, hnc, hm, hs, ht⟩
  · injection he with he; cases he
  · injection hv with hv; injection hv with hv; injection hv with h1; subst h1; exact ⟨hg, cur, _, hh⟩
theorem OV.spot (h : OV w B T A n c vs) : ∀ x, A = some x → ∃ b o, x = ⟨b, o, none⟩ := by
  intro x e
  subst e
  rcases h.2.2 with ⟨he, _⟩ | ⟨g, cap, cur, hv, _⟩
  · injection he with e; cases e
  · injection hv with e; injection e with e; exact ⟨g, 0, e⟩
theorem OV.kept {S : Nat → Prop} (h : OV w B T A n c vs) (hg : Chg S w w') (hn : ∀ b, B ≤ b → Typ w T b → ¬ S b) : OV w' B T A n c vs := by
  refine ⟨h.1, h.2.1, ?_⟩
  rcases h.2.2 with he | ⟨g, cap, cur, hv, hB, hh, hr⟩
  · exact .inl he
  · exact .inr ⟨g, cap, cur, hv, hB, (hg.block g (Array.getElem?_eq_some_iff.1 hh).1 (hn g hB ⟨cur, _, hh⟩)).trans hh, hr⟩
theorem OV.cell (h : OV w B T A n c vs) {i : Nat} {v : Value} (hi : vs[i]? = some v) : ∃ b, A = some ⟨b, 0, none⟩ ∧ b < w.heap.size ∧ w.cell? ⟨b, i, none⟩ = some v := by
  have hl := (List.getElem?_eq_some_iff.1 hi).1
  have hn := h.1
  rcases h.2.2 with ⟨he, h0⟩ | ⟨g, cap, cur, hv, hg, hh, hnc, hm, hs, ht⟩
  · omega
  · injection hv with hA
    refine ⟨g, hA, (Array.getElem?_eq_some_iff.1 hh).1, ?_⟩
    have e : (cur.toList.take (n * 1))[i]? = vs[i]? := by rw [ht]
    rw [List.getElem?_take, if_pos (by omega), Array.getElem?_toList, hi] at e
    simp [World.cell?, hh, e]
/-- What an append may write. -/
theorem OV.chg (h : OV w B T A n c vs) (hg : w.grownBy w' (A.map (·.block))) : Chg (fun b => B ≤ b ∧ Typ w T b) w w' :=
  Chg.grown hg (fun k hk => by
    cases A with
    | none => cases hk
    | some x =>
      obtain ⟨b, o, rfl⟩ := h.spot _ rfl
      simp only [Option.map_some, Option.some.injEq] at hk
      subst hk
      exact h.typ _ _ rfl)
end

theorem info_any {T : TypeId} {z : Value} {by_ : Nat} (h : (Tryd.prog.info? T).map (fun i => (i.zero, i.size, i.bytes)) = some (some z, 1, by_)) : ∃ i, Tryd.prog.info? T = some i ∧ i.zero = some z ∧ i.size = 1 ∧ i.bytes = by_ := by
  obtain ⟨i, hi, hz⟩ := Option.map_eq_some_iff.1 h
  simp only [Prod.mk.injEq] at hz
  exact ⟨i, hi, hz.1, hz.2.1, hz.2.2⟩
theorem infoSl : (Tryd.prog.info? 22).map (fun i => (i.zero, i.size, i.bytes)) = some (some (Value.slice none 0 0), 1, 24) := by kernel_rfl
theorem infoInt : (Tryd.prog.info? 3).map (fun i => (i.zero, i.size, i.bytes)) = some (some (Value.int IntKind.i64 0), 1, 8) := by kernel_rfl

theorem run_app1 (w : World) (t T : TypeId) (z : Value) (by_ : Nat) (ht : Tryd.prog.underlying t = some (.slice T)) (hinf : (Tryd.prog.info? T).map (fun i => (i.zero, i.size, i.bytes)) = some (some z, 1, by_)) (hz : z.cells.size = 1)
    (B n c : Nat) (A : Option Addr) (vs : List Value) (hown : OV w B T A n c vs) (g d : Nat) (v : Value) (hc : w.cell? ⟨g, 0, none⟩ = some v) (hv : v.oneCell' = true) (hb : (n + 1) * by_ ≤ 140737488355328) (hm : n + 1 ≤ maxLen) (hbase : B ≤ w.heap.size) (ty : TypeId) :
    ∃ A' c' w', (Builtin.append_ #[t, t] ty #[.slice A n c, .slice (some ⟨g, 0, none⟩) 1 d]).run Tryd.prog w = .ok (.slice A' (n + 1) c') w' ∧ OV w' B T A' (n + 1) c' (vs ++ [v]) ∧ w.grownBy w' (A.map (·.block)) := by
  obtain ⟨i0, hi, hz0, hz1, hz2⟩ := info_any hinf
  have hbk : Value.ownBlock (.slice A n c) = A.map (·.block) := by cases A <;> rfl
  obtain ⟨v', w', hrun, h2, h3, _, h5⟩ := run_append_own_at (P := Tryd.prog) w B t ty T i0 z 1 by_ ht hi hz0 hz1 hz2 hz (by omega) (.slice A n c) n vs hown.2 ⟨g, 0, none⟩ 1 d [v] (by simp)
    (fun j u hu => by
      cases j with
      | zero => simp at hu; subst hu; rw [add_at]; exact hc
      | succ j => simp at hu) (fun u hu => by simp at hu; subst hu; exact hv) hm hb hbase
  have hform : ∃ A' c', v' = .slice A' (n + 1) c' := by
    rcases h2.2 with ⟨e, h0⟩ | ⟨g, cap, cur, e, _⟩
    · omega
    · exact ⟨_, _, e⟩
  obtain ⟨A', c', rfl⟩ := hform
  rw [hbk] at h3
  exact ⟨A', c', w', hrun, ⟨by rw [List.length_append, hown.1]; rfl, h2⟩, h3⟩

section
variable {w : World} {a : Act} {o : Oper} {ops : Array Oper} {rest : List Oper} {Q : Exit → Act → World → Prop} {K : Act → World → Prop}

theorem wpList_app1 (hgd : o.guard = none) (s x : Operand) (t T : TypeId)
    (ho : o.op = .call { callee := .builtin .append, args := #[s, x], argTypes := #[t, t] })
    (z : Value) (by_ : Nat) (ht : Tryd.prog.underlying t = some (.slice T)) (hinf : (Tryd.prog.info? T).map (fun i => (i.zero, i.size, i.bytes)) = some (some z, 1, by_)) (hz : z.cells.size = 1)
    (B n c : Nat) (A : Option Addr) (vs : List Value) (hs : a.eval s = .slice A n c) (hown : OV w B T A n c vs) (g d : Nat) (v : Value) (hx : a.eval x = .slice (some ⟨g, 0, none⟩) 1 d) (hc : w.cell? ⟨g, 0, none⟩ = some v) (hv : v.oneCell' = true) (hb : (n + 1) * by_ ≤ 140737488355328) (hm : n + 1 ≤ maxLen) (hbase : B ≤ w.heap.size)
    (h : ∀ A' c' w', OV w' B T A' (n + 1) c' (vs ++ [v]) → w.grownBy w' (A.map (·.block)) → wpList Tryd.prog ops Q rest (a.put o.dst (.slice A' (n + 1) c')) w') :
    wpList Tryd.prog ops Q (o :: rest) a w :=
  wpList_plain hgd fun _ hK => by
    obtain ⟨A', c', w', hrun, h2, h3⟩ := run_app1 w t T z by_ ht hinf hz B n c A vs hown g d v hc hv hb hm hbase o.type
    unfold Oper.wp execOp
    simp only [ho, resolve, invoke, builtin, Sem.run_bind, Sem.run_pure, Result.andThen_ok, List.map_toArray, List.map_cons, List.map_nil, hs, hx, hrun]
    exact hK _ _ (h A' c' w' h2 h3)
end

/-- v is a slice of a buffer of its own, behind block d, that holds l. -/
def EL (w : World) (d : Nat) (v : Value) (l : List UInt8) : Prop :=
  ∃ (q K : Nat) (f : Nat → Value), v = .slice (some ⟨q, 0, none⟩) l.length K ∧ w.rowIs q 5 K f ∧ l.length ≤ K ∧ K ≤ 1024 ∧ d < q ∧ ∀ i c, l[i]? = some c → f i = .int .u8 (c.toNat : Int)

theorem EL.kept {S : Nat → Prop} {w w' : World} {d : Nat} {v : Value} {l : List UInt8} (h : EL w d v l) (hg : Chg S w w') (hn : ∀ q, d < q → Typ w 5 q → ¬ S q) : EL w' d v l := by
  obtain ⟨q, K, f, h1, h2, h3, h4, h5, h6⟩ := h
  exact ⟨q, K, f, h1, hg.row h2 (hn q h5 (Typ.row h2)), h3, h4, h5, h6⟩

/-- The values vs are buffers that hold ls. -/
def ELs (w : World) (d : Nat) (vs : List Value) (ls : List (List UInt8)) : Prop := vs.length = ls.length ∧ ∀ (i : Nat) v l, vs[i]? = some v → ls[i]? = some l → EL w d v l

theorem ELs.kept {S : Nat → Prop} {w w' : World} {d : Nat} {vs : List Value} {ls : List (List UInt8)} (h : ELs w d vs ls) (hg : Chg S w w') (hn : ∀ q, d < q → Typ w 5 q → ¬ S q) : ELs w' d vs ls :=
  ⟨h.1, fun i v l hv hl => (h.2 i v l hv hl).kept hg hn⟩
theorem ELs.nil_ (w : World) (d : Nat) : ELs w d [] [] := ⟨rfl, fun i v l hv _ => by simp at hv⟩
theorem ELs.snoc {w : World} {d : Nat} {vs : List Value} {ls : List (List UInt8)} {v : Value} {l : List UInt8} (h : ELs w d vs ls) (hv : EL w d v l) : ELs w d (vs ++ [v]) (ls ++ [l]) := by
  have hl := h.1
  refine ⟨by simp [hl], fun i x y hx hy => ?_⟩
  rcases Nat.lt_or_ge i vs.length with h1 | h1
  · rw [List.getElem?_append_left h1] at hx
    rw [List.getElem?_append_left (by omega)] at hy
    exact h.2 i x y hx hy
  · rw [List.getElem?_append_right h1] at hx
    rw [List.getElem?_append_right (by omega)] at hy
    have h0 : i - vs.length = 0 := by
      have := (List.getElem?_eq_some_iff.1 hx).1
      simp at this
      omega
    rw [h0] at hx
    rw [show i - ls.length = 0 by omega] at hy
    simp at hx hy
    subst hx hy
    exact hv

/-- What was read, as a slice of slices. -/
theorem OV.rp {w : World} {B n c d : Nat} {A : Option Addr} {vs : List Value} {ls : List (List UInt8)} (h : OV w B 22 A n c vs) (hE : ELs w d vs ls) : RP w A n ls := by
  refine ⟨by rw [← hE.1, h.1], fun hn => ?_⟩
  have h0 : vs[0]? = some (vs[0]'(by rw [h.1]; exact hn)) := List.getElem?_eq_getElem _
  obtain ⟨b, e, hb, _⟩ := h.cell h0
  refine ⟨b, 0, e, hb, fun i l hi => ?_⟩
  have hi' := (List.getElem?_eq_some_iff.1 hi).1
  have hv : vs[i]? = some (vs[i]'(by rw [hE.1]; exact hi')) := List.getElem?_eq_getElem _
  obtain ⟨b', e', _, hc⟩ := h.cell hv
  rw [e] at e'
  injection e' with e'
  injection e' with e1
  subst e1
  obtain ⟨q, K, f, h1, h2, h3, h4, h5, h6⟩ := hE.2 i _ l hv hi
  refine ⟨some ⟨q, 0, none⟩, l.length, K, by rw [Nat.zero_add, hc, h1], ⟨rfl, fun hp => ⟨q, 0, rfl, h2.lt, fun j x hj => ?_⟩⟩, h3, by omega⟩
  have hj' := (List.getElem?_eq_some_iff.1 hj).1
  rw [Nat.zero_add, h2.cell (by omega), h6 j x hj]

theorem OV.ri {w : World} {B n c : Nat} {A : Option Addr} {zs : List Int} (h : OV w B 3 A n c (zs.map fun z => Value.int .i64 z)) : RI w A n zs := by
  have hl : zs.length = n := by have := h.1; rwa [List.length_map] at this
  refine ⟨hl, fun hn => ?_⟩
  have h0 : (zs.map fun z => Value.int .i64 z)[0]? = some (.int .i64 (zs[0]'(by omega))) := by rw [List.getElem?_map, List.getElem?_eq_getElem (by omega)]; rfl
  obtain ⟨b, e, hb, _⟩ := h.cell h0
  refine ⟨b, 0, e, hb, fun i z hi => ?_⟩
  have hv : (zs.map fun z => Value.int .i64 z)[i]? = some (.int .i64 z) := by rw [List.getElem?_map, hi]; rfl
  obtain ⟨b', e', _, hc⟩ := h.cell hv
  rw [e] at e'
  injection e' with e'
  injection e' with e1
  subst e1
  rw [Nat.zero_add, hc]

end Go.Proofs.YthldocgabpbgmaaDoor
