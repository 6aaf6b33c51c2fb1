/-
  append onto a row of bytes that the call itself has made ('OB'), the source nil, empty or not.
-/
import Derived.Test.YtgkpekdgdiphdaaDoorEncode
import Derived.Maps.AppendAt
import Derived.OwnWalk
import Derived.RegionTactic
namespace Go.Proofs.YtgkpekdgdiphdaaDoor
open Go.RowKit Go.Lib
set_option linter.unusedVariables false

def cellsB (l : List UInt8) : List Value := l.map fun b => Value.int .u8 (b.toNat : Int)

/-- The slice (A, n, c) owns the bytes l, in a block from B on. -/
def OB (w : World) (B : Nat) (A : Option Addr) (n c : Nat) (l : List UInt8) : Prop :=
  l.length = n ∧ w.ownsRow B 5 1 (.slice A n c) n (cellsB l)

section
variable {w w' : World} {B n c : Nat} {A : Option Addr} {l : List UInt8}

theorem OB.nil_ (w : World) (B : Nat) : OB w B none 0 0 [] := ⟨rfl, by simp [cellsB], .inl ⟨rfl, rfl⟩⟩

theorem OB.made (w : World) (B : Nat) (hB : B ≤ w.heap.size) (cs : Array Value) (hs : cs.size ≤ maxLen) : OB (w.alloc (.cells cs 5)) B (some ⟨w.heap.size, 0, none⟩) 0 cs.size [] :=
  ⟨rfl, World.ownsRow_made w cs cs.size hB hs (by simp)⟩

theorem OB.rb (h : OB w B A n c l) : RB w A n l := by
  refine ⟨h.1, fun hn => ?_⟩
  rcases h.2.2 with ⟨he, h0⟩ | ⟨g, cap, cur, hv, hg, hh, hnc, hm, hs, ht⟩
  · omega
  · injection hv with hA hn' hc
    subst hA
    refine ⟨g, 0, rfl, ?_, fun i b hi => ?_⟩
    · rcases Nat.lt_or_ge g w.heap.size with h' | h'
      · exact h'
      · rw [Array.getElem?_eq_none h'] at hh; cases hh
    · have hc := h.2.cells (g := g) rfl i (.int .u8 (b.toNat : Int)) (by unfold cellsB; rw [List.getElem?_map, hi]; rfl)
      have e2 : (⟨g, 0, none⟩ : Addr).add i = ⟨g, 0 + i, none⟩ := by
        unfold Addr.add
        split
        · rename_i h0; subst h0; simp
        · rfl
      rw [e2] at hc
      exact hc

theorem OB.le (h : OB w B A n c l) : n ≤ c ∧ c ≤ maxLen := by
  rcases h.2.2 with ⟨he, h0⟩ | ⟨g, cap, cur, hv, hg, hh, hnc, hm, hs, ht⟩
  · injection he with _ h1 h2; subst h2; omega
  · injection hv with _ _ hc; subst hc; exact ⟨hnc, hm⟩

theorem OB.len (h : OB w B A n c l) : l.length = n := h.1

theorem OB.block (h : OB w B A n c l) : ∀ b o, A = some ⟨b, o, none⟩ → B ≤ b ∧ b < w.heap.size := by
  intro b o e
  subst e
  exact h.2.lt b rfl

theorem OB.kept {row : Option Nat} (h : OB w B A n c l) (hg : w.grownBy w' row) (hne : ∀ b o, A = some ⟨b, o, none⟩ → row ≠ some b) : OB w' B A n c l := by
  refine ⟨h.1, h.2.kept hg ?_⟩
  rcases h.2.2 with ⟨he, _⟩ | ⟨g, cap, cur, hv, _⟩
  · injection he with e1; subst e1; exact .inl rfl
  · injection hv with e1; subst e1; exact .inr (fun e => hne g 0 rfl e.symm)

theorem OB.below (h : OB w B A n c l) (hb : Below w.heap.size w w') : OB w' B A n c l :=
  h.kept (row := none) ⟨hb.os, hb.tape, hb.output, hb.size, fun i hi _ => hb.block i hi⟩ (fun _ _ _ e => by cases e)
theorem OB.alloc (h : OB w B A n c l) (o : Obj) : OB (w.alloc o) B A n c l := ⟨h.1, h.2.alloc o⟩
theorem OB.drew (h : OB w B A n c l) : OB w.drew B A n c l := h
end

/-- One byte, in a block of its own. -/
theorem RB.one (w : World) (b : UInt8) : RB (w.alloc (.cells #[.int .u8 (b.toNat : Int)] 5)) (some ⟨w.heap.size, 0, none⟩) 1 [b] :=
  ⟨rfl, fun _ => ⟨w.heap.size, 0, rfl, by simp, fun i c hi => by
    cases i with
    | zero => simp at hi; subst hi; rw [cell_of_row _ _ _ _ _ (0, 0) (heap_alloc_new w _)]; rfl
    | succ i => simp at hi⟩⟩

theorem RB.two (w : World) (b d : UInt8) : RB (w.alloc (.cells #[.int .u8 (b.toNat : Int), .int .u8 (d.toNat : Int)] 5)) (some ⟨w.heap.size, 0, none⟩) 2 [b, d] :=
  ⟨rfl, fun _ => ⟨w.heap.size, 0, rfl, by simp, fun i c hi => by
    match i with
    | 0 => simp at hi; subst hi; rw [cell_of_row _ _ _ _ _ (0, 0) (heap_alloc_new w _)]; rfl
    | 1 => simp at hi; subst hi; rw [cell_of_row _ _ _ _ _ (0, 0) (heap_alloc_new w _)]; rfl
    | i + 2 => simp at hi⟩⟩

/-- A slice that grows to at most three quarters of the greatest size finds room. -/
theorem fitsBig {need old : Nat} (h : old < need) (hb : need ≤ 211106232532992) : Builtin.nextslicecap need old ≤ 281474976710656 := by
  have step : ∀ (r c : Nat), c < need + need / 4 + 192 → Builtin.growBy need r c ≤ need + need / 4 + 192 := by
    intro r
    induction r with
    | zero => intro c hc; simp only [Builtin.growBy]; omega
    | succ r ih =>
      intro c hc
      simp only [Builtin.growBy]
      split
      · omega
      · by_cases h2 : c + (c + 768) / 4 < need + need / 4 + 192
        · exact ih _ h2
        · have e : c + (c + 768) / 4 = need + need / 4 + 192 ∨ c + (c + 768) / 4 < need + need / 4 + 192 := by omega
          rcases e with e | e
          · rw [e]
            cases r with
            | zero => simp only [Builtin.growBy]; omega
            | succ r => simp only [Builtin.growBy]; rw [if_pos (by omega)]; omega
          · exact absurd e h2
  unfold Builtin.nextslicecap
  split
  · omega
  · split
    · omega
    · have := step 4 old (by omega)
      omega

/-- An owned row is nil, or a whole block. -/
theorem OB.cases_ {w : World} {B n c : Nat} {A : Option Addr} {l : List UInt8} (h : OB w B A n c l) :
    (A = none ∧ n = 0 ∧ c = 0 ∧ l = []) ∨ ∃ g f, A = some ⟨g, 0, none⟩ ∧ B ≤ g ∧ n ≤ c ∧ c ≤ maxLen ∧ w.rowIs g 5 c f ∧ ∀ i b, l[i]? = some b → f i = .int .u8 (b.toNat : Int) := by
  have hl := h.1
  rcases h.2.2 with ⟨he, h0⟩ | ⟨g, cap, cur, hv, hg, hh, hnc, hm, hs, ht⟩
  · injection he with h1 h2 h3
    subst h1 h2 h3
    exact .inl ⟨rfl, rfl, rfl, List.eq_nil_of_length_eq_zero hl⟩
  · injection hv with h1 h2 h3
    subst h1 h3
    refine .inr ⟨g, fun i => cur[i]?.getD .nilIface, rfl, hg, hnc, hm, ⟨cur, hh, by simpa using hs, fun i hi => ?_⟩, fun i b hb => ?_⟩
    · have : i < cur.size := by rw [hs]; omega
      show cur[i]? = some (cur[i]?.getD .nilIface)
      rw [Array.getElem?_eq_getElem this]
      rfl
    · have hi := (List.getElem?_eq_some_iff.1 hb).1
      have e : (cur.toList.take (n * 1))[i]? = (cellsB l)[i]? := by rw [ht]
      rw [List.getElem?_take, if_pos (by omega)] at e
      unfold cellsB at e
      rw [List.getElem?_map, hb, Array.getElem?_toList] at e
      show cur[i]?.getD .nilIface = _
      rw [e]
      rfl

theorem OB.ofRow_ {w : World} {B n c g : Nat} {f : Nat → Value} {l : List UInt8} (hl : l.length = n) (hB : B ≤ g) (hn : n ≤ c) (hc : c ≤ maxLen) (h : w.rowIs g 5 c f) (hf : ∀ i b, l[i]? = some b → f i = .int .u8 (b.toNat : Int)) :
    OB w B (some ⟨g, 0, none⟩) n c l := by
  obtain ⟨cur, hh, hs, hcur⟩ := h
  refine ⟨hl, by unfold cellsB; rw [List.length_map]; omega, .inr ⟨g, c, cur, rfl, hB, hh, hn, hc, by omega, ?_⟩⟩
  refine List.ext_getElem? fun i => ?_
  rw [List.getElem?_take]
  unfold cellsB
  rw [List.getElem?_map]
  by_cases hi : i < n
  · rw [if_pos (by omega), Array.getElem?_toList, hcur i (by omega), List.getElem?_eq_getElem (by omega), hf i _ (List.getElem?_eq_getElem (by omega))]
    rfl
  · rw [if_neg (by omega), List.getElem?_eq_none (by omega)]
    rfl

/-- Bytes laid over a stretch of a row. -/
theorem seg_row {w : World} {g T N o k : Nat} {f : Nat → Value} {cur : Array Value} {l : List UInt8} (hh : w.heap[g]? = some (.cells cur T (0, 0))) (hs : cur.size = N) (hcur : ∀ i, i < N → cur[i]? = some (f i)) (hl : l.length = k) (hfit : o + k ≤ N) :
    (w.setRow g (cur.toList.take o ++ cellsB l ++ cur.toList.drop (o + k)).toArray).rowIs g T N (fun j => if j < o then f j else if j < o + k then .int .u8 ((l[j - o]?.getD 0).toNat : Int) else f j) := by
  have hc : (cellsB l).length = k := by unfold cellsB; rw [List.length_map, hl]
  have hlen : cur.toList.length = N := by rw [Array.length_toList, hs]
  refine ⟨_, setRow_heap w g cur _ T _ hh, ?_, fun j hj => ?_⟩
  · simp only [List.size_toArray, List.length_append, List.length_take, List.length_drop, hc, hlen]
    omega
  · have e1 : (cur.toList.take o).length = o := by rw [List.length_take, hlen]; omega
    simp only [List.getElem?_toArray]
    by_cases h1 : j < o
    · rw [List.append_assoc, List.getElem?_append_left (by omega), List.getElem?_take, if_pos h1, Array.getElem?_toList, hcur j hj, if_pos h1]
    · rw [if_neg h1]
      by_cases h2 : j < o + k
      · rw [if_pos h2, List.append_assoc, List.getElem?_append_right (by omega), List.getElem?_append_left (by omega), e1]
        unfold cellsB
        rw [List.getElem?_map, List.getElem?_eq_getElem (by omega)]
        rfl
      · rw [if_neg h2, List.getElem?_append_right (by rw [List.length_append, e1, hc]; omega), List.getElem?_drop, List.length_append, e1, hc, show o + k + (j - (o + k)) = j by omega, Array.getElem?_toList, hcur j hj]

/-- A new row that begins with bytes. -/
theorem new_row (w : World) (l : List UInt8) (k q : Nat) (hl : l.length = k) : (w.drew.alloc (.cells ((cellsB l).toArray ++ Builtin.zeroCells #[.int .u8 0] q) 5)).rowIs w.heap.size 5 (k + q) (fun i => if i < k then .int .u8 ((l[i]?.getD 0).toNat : Int) else .int .u8 0) := by
  have hc : (cellsB l).toArray.size = k := by unfold cellsB; simp [hl]
  have hz : (Builtin.zeroCells (#[.int .u8 0] : Array Value) q).size = q := by rw [size_zeroCells]; simp
  refine ⟨_, heap_alloc_new w.drew _, by rw [Array.size_append, hc, hz], fun i hi => ?_⟩
  show _ = some (if i < k then _ else _)
  by_cases h1 : i < k
  · rw [if_pos h1, Array.getElem?_append_left (by omega), List.getElem?_toArray]
    unfold cellsB
    rw [List.getElem?_map, List.getElem?_eq_getElem (by omega)]
    rfl
  · rw [if_neg h1, Array.getElem?_append_right (by omega), hc]
    unfold Builtin.zeroCells
    rw [Array.getElem?_map]
    simp [show i - k < q by omega, Nat.mod_one]

theorem cellsB_one (l : List UInt8) : ∀ u ∈ cellsB l, u.oneCell' = true := fun u hu => by
  unfold cellsB at hu
  obtain ⟨b, _, rfl⟩ := List.mem_map.1 hu
  rfl

theorem OB.new_ (w : World) (B n q : Nat) (l : List UInt8) (hl : l.length = n) (hB : B ≤ w.heap.size) (hm : n + q ≤ maxLen) (W : World) (hW : W = w.drew.alloc (.cells ((cellsB l).toArray ++ Builtin.zeroCells #[.int .u8 0] q) 5)) : OB W B (some ⟨w.heap.size, 0, none⟩) n (n + q) l ∧ w.grownBy W none := by
  subst hW
  refine ⟨OB.ofRow_ hl hB (by omega) hm (new_row w l n q hl) (fun i b hb => ?_), ⟨rfl, rfl, rfl, by simp, fun j hj _ => ((Below.refl w.heap.size w).drew.alloc (Nat.le_refl _) _).block j hj⟩⟩
  have hi := (List.getElem?_eq_some_iff.1 hb).1
  rw [if_pos (by omega), hb]
  rfl

/-- append where the sum is great: in place, or into a new row. -/
theorem run_appBig (w : World) (B n c : Nat) (A : Option Addr) (l : List UInt8) (hown : OB w B A n c l) (ad : Addr) (m d : Nat) (news : List UInt8) (hlen : news.length = m) (hcells : ∀ j u, (cellsB news)[j]? = some u → w.cell? (ad.add j) = some u) (hbig : 0 < n + m) (hb : n + m ≤ 211106232532992) (hbase : B ≤ w.heap.size) (ty : TypeId) (hm0 : 0 < m) :
    ∃ A' c' w', (Builtin.append_ #[22, 22] ty #[.slice A n c, .slice (some ad) m d]).run Tryd.prog w = .ok (.slice A' (n + m) c') w' ∧ OB w' B A' (n + m) c' (l ++ news) ∧ w.grownBy w' (A.map (·.block)) ∧
      (A'.map (·.block) = A.map (·.block) ∨ A'.map (·.block) = some w.heap.size) := by
  obtain ⟨i0, hi, hz0, hz1, hz2⟩ := info_parts infoU8
  have hzc : (Value.int .u8 0).cells = #[.int .u8 0] := rfl
  have hcl : (cellsB news).length = m := by unfold cellsB; rw [List.length_map, hlen]
  have hll : (l ++ news).length = n + m := by rw [List.length_append, hown.1, hlen]
  have happ : cellsB l ++ cellsB news = cellsB (l ++ news) := by unfold cellsB; rw [List.map_append]
  have hmx : n + m ≤ maxLen := by simp only [maxLen]; omega
  rcases hown.2.2 with ⟨he, h0⟩ | ⟨g, cap, cur, hv, hg, hh, hnc, hm, hs, ht⟩
  · injection he with e1 e2 e3
    subst e1 e2 e3
    have hl0 : l = [] := List.eq_nil_of_length_eq_zero hown.1
    subst hl0
    have hr := run_append_nil (P := Tryd.prog) w 22 ty 5 i0 _ Tryd.underlying22 hi hz0 ad m d (cellsB news) (by rw [hz1, hcl]; omega) hcells (by omega) (by omega) (by rw [hz2]; omega)
    have hG1 := grownCap_ge w m 0 5
    have hG2 := grownCap_le_maxLen w m 0 5 (by simpa using hmx)
    obtain ⟨o1, o2⟩ := OB.new_ w B m (grownCap w m 0 5 - m) news hlen hbase (by omega) _ rfl
    rw [show m + (grownCap w m 0 5 - m) = grownCap w m 0 5 by omega] at o1
    simp only [Nat.zero_add, List.nil_append]
    exact ⟨_, _, _, hr, o1, ⟨o2.os, o2.tape, o2.output, o2.size, fun k hk _ => o2.block k hk (by simp)⟩, .inr rfl⟩
  · injection hv with e1 e2 e3
    subst e1 e3
    simp only [Nat.mul_one] at hs ht
    have hcur : ∀ i : Nat, i < c → cur[i]? = some (cur[i]?.getD .nilIface) := fun i hi => by
      rw [Array.getElem?_eq_getElem (by omega)]; rfl
    have hlc : ∀ (i : Nat) (b : UInt8), l[i]? = some b → cur[i]? = some (Value.int .u8 (b.toNat : Int)) := fun i b hb => by
      have hi' := (List.getElem?_eq_some_iff.1 hb).1
      have e : (cur.toList.take n)[i]? = (cellsB l)[i]? := by rw [ht]
      rw [List.getElem?_take, if_pos (by rw [← hown.1]; exact hi'), Array.getElem?_toList] at e
      rw [e]
      unfold cellsB
      rw [List.getElem?_map, hb]
      rfl
    by_cases hroom : n + m ≤ c
    · have hr := run_append_room (P := Tryd.prog) w 22 ty 5 i0 Tryd.underlying22 hi g n c cur hh ad m d (cellsB news) (by rw [hz1, hcl]; omega) hcells (cellsB_one news) hroom (by rw [hz1, hcl]; omega)
      rw [hz1, Nat.mul_one, hcl] at hr
      have hrow := seg_row (o := n) hh hs hcur hlen hroom
      refine ⟨_, _, _, hr, OB.ofRow_ hll hg hroom hm hrow (fun i b hb => ?_), ⟨rfl, rfl, rfl, by simp, fun k _ hk => setRow_other w g k _ (fun e => hk (by rw [e]; rfl))⟩, .inl rfl⟩
      by_cases h1 : i < n
      · rw [if_pos h1]
        rw [List.getElem?_append_left (by rw [hown.1]; exact h1)] at hb
        rw [hlc i b hb]
        rfl
      · rw [List.getElem?_append_right (by rw [hown.1]; omega), hown.1] at hb
        have := (List.getElem?_eq_some_iff.1 hb).1
        rw [if_neg h1, if_pos (by omega), hb]
        rfl
    · have hr := run_append_grow (P := Tryd.prog) w 22 ty 5 i0 _ Tryd.underlying22 hi hz0 ⟨g, 0, none⟩ n c (cellsB l) (by unfold cellsB; rw [List.length_map, hown.1, hz1]; omega) (hown.2.cells (g := g) rfl) ad m d (cellsB news) (by rw [hz1, hcl]; omega) hcells (by omega) (by omega)
        (by rw [hz2, Nat.mul_one]; exact fitsBig (by omega) hb)
      have hG1 := grownCap_ge w (n + m) c 5
      have hG2 := grownCap_le_maxLen w (n + m) c 5 hmx
      obtain ⟨o1, o2⟩ := OB.new_ w B (n + m) (grownCap w (n + m) c 5 - (n + m)) (l ++ news) hll hbase (by omega) _ rfl
      rw [show n + m + (grownCap w (n + m) c 5 - (n + m)) = grownCap w (n + m) c 5 by omega, ← happ, ← List.append_toArray] at o1
      rw [← happ, ← List.append_toArray] at o2
      exact ⟨_, _, _, hr, o1, ⟨o2.os, o2.tape, o2.output, o2.size, fun k hk _ => o2.block k hk (by simp)⟩, .inr rfl⟩

theorem run_appB (w : World) (B n c : Nat) (A : Option Addr) (l : List UInt8) (hown : OB w B A n c l) (X : Option Addr) (m d : Nat) (news : List UInt8) (hr : RB w X m news) (hb : n + m ≤ 211106232532992) (hbase : B ≤ w.heap.size) (ty : TypeId) :
    ∃ A' c' w', (Builtin.append_ #[22, 22] ty #[.slice A n c, .slice X m d]).run Tryd.prog w = .ok (.slice A' (n + m) c') w' ∧ OB w' B A' (n + m) c' (l ++ news) ∧ w.grownBy w' (A.map (·.block)) ∧
      (A'.map (·.block) = A.map (·.block) ∨ A'.map (·.block) = some w.heap.size) := by
  obtain ⟨i0, hi, hz0, hz1, hz2⟩ := info_parts infoU8
  have hbk : ∀ (Y : Option Addr) (p q : Nat), Value.ownBlock (.slice Y p q) = Y.map (·.block) := fun Y p q => by cases Y <;> rfl
  cases X with
  | none =>
    have hm : m = 0 := by
      rcases Nat.eq_zero_or_pos m with h0 | h0
      · exact h0
      · obtain ⟨b, o, e, _⟩ := hr.2 h0; cases e
    subst hm
    have hn : news = [] := List.eq_nil_of_length_eq_zero hr.1
    subst hn
    refine ⟨A, c, w, ?_, by simpa using hown, World.grownBy.refl w _, .inl rfl⟩
    have hu := run_underlying Tryd.underlying22
    have hle := hown.le.1
    cases A with
    | none =>
      rcases hown.2.2 with ⟨he, h0⟩ | ⟨g, cap, cur, hv, _⟩
      · injection he with _ h1 h2
        subst h1 h2
        simp [Builtin.append_, hu, sizeOf, typeInfo, hi, Builtin.lenOf, Builtin.firstCells]
      · injection hv with hv; cases hv
    | some g => simp [Builtin.append_, hu, sizeOf, typeInfo, hi, Builtin.lenOf, Builtin.firstCells, hle, storeCells]
  | some ad =>
    have hcells : ∀ j u, (cellsB news)[j]? = some u → w.cell? (ad.add j) = some u := by
      intro j u hu
      unfold cellsB at hu
      rw [List.getElem?_map] at hu
      cases hj : news[j]? with
      | none => rw [hj] at hu; cases hu
      | some b =>
        rw [hj] at hu
        simp only [Option.map_some, Option.some.injEq] at hu
        have hlt := (List.getElem?_eq_some_iff.1 hj).1
        obtain ⟨b0, o0, e, _, hc⟩ := hr.2 (by rw [← hr.1]; omega)
        injection e with e
        subst e
        rw [← hu]
        have e2 : (⟨b0, o0, none⟩ : Addr).add j = ⟨b0, o0 + j, none⟩ := by
          unfold Addr.add
          split
          · rename_i h0; subst h0; simp
          · rfl
        rw [e2]
        exact hc j b hj
    rcases Nat.eq_zero_or_pos m with hm0 | hm0
    · subst hm0
      have hn : news = [] := List.eq_nil_of_length_eq_zero hr.1
      subst hn
      have hu := run_underlying Tryd.underlying22
      have hle := hown.le.1
      refine ⟨A, c, w, ?_, by simpa using hown, World.grownBy.refl w _, .inl rfl⟩
      cases A with
      | none =>
        rcases hown.2.2 with ⟨he, h0⟩ | ⟨g, cap, cur, hv, _⟩
        · injection he with _ h1 h2
          subst h1 h2
          simp [Builtin.append_, hu, sizeOf, typeInfo, hi, Builtin.lenOf, Builtin.firstCells, loadCells, loadCellsFrom]
        · injection hv with hv; cases hv
      | some g => simp [Builtin.append_, hu, sizeOf, typeInfo, hi, Builtin.lenOf, Builtin.firstCells, hle, storeCells, loadCells, loadCellsFrom]
    · exact run_appBig w B n c A l hown ad m d news hr.1 hcells (by omega) hb hbase ty hm0

section
variable {w : World} {a : Act} {o : Oper} {ops : Array Oper} {rest : List Oper} {Q : Exit → Act → World → Prop} {K : Act → World → Prop}

theorem wp_appB (s x : Operand)
    (ho : o.op = .call { callee := .builtin .append, args := #[s, x], argTypes := #[22, 22] })
    (B n c : Nat) (A : Option Addr) (l : List UInt8) (hs : a.eval s = .slice A n c) (hown : OB w B A n c l) (X : Option Addr) (m d : Nat) (news : List UInt8) (hx : a.eval x = .slice X m d) (hr : RB w X m news) (hb : n + m ≤ 211106232532992) (hbase : B ≤ w.heap.size)
    (h : ∀ A' c' w', OB w' B A' (n + m) c' (l ++ news) → w.grownBy w' (A.map (·.block)) → (A'.map (·.block) = A.map (·.block) ∨ A'.map (·.block) = some w.heap.size) → K (a.put o.dst (.slice A' (n + m) c')) w') : o.wp Tryd.prog a w K Q := by
  obtain ⟨A', c', w', hrun, h2, h3, h4⟩ := run_appB w B n c A l hown X m d news hr hb hbase o.type
  unfold Oper.wp execOp
  simp only [ho, resolve, invoke, builtin, Sem.run_bind, Sem.run_pure, Result.andThen_ok, List.map_toArray, List.map_cons, List.map_nil, hs, hx, hrun]
  exact h A' c' w' h2 h3 h4

theorem wpList_appB (hgd : o.guard = none) (s x : Operand)
    (ho : o.op = .call { callee := .builtin .append, args := #[s, x], argTypes := #[22, 22] })
    (B n c : Nat) (A : Option Addr) (l : List UInt8) (hs : a.eval s = .slice A n c) (hown : OB w B A n c l) (X : Option Addr) (m d : Nat) (news : List UInt8) (hx : a.eval x = .slice X m d) (hr : RB w X m news) (hb : n + m ≤ 211106232532992) (hbase : B ≤ w.heap.size)
    (h : ∀ A' c' w', OB w' B A' (n + m) c' (l ++ news) → w.grownBy w' (A.map (·.block)) → (A'.map (·.block) = A.map (·.block) ∨ A'.map (·.block) = some w.heap.size) → wpList Tryd.prog ops Q rest (a.put o.dst (.slice A' (n + m) c')) w') :
    wpList Tryd.prog ops Q (o :: rest) a w :=
  wpList_plain hgd fun _ hK => wp_appB s x ho B n c A l hs hown X m d news hx hr hb hbase fun A' c' w' h2 h3 h4 => hK _ _ (h A' c' w' h2 h3 h4)

theorem wpList_appBg (hw : Region.wanted o (yielded ops a.tmps) = true) (s x : Operand)
    (ho : o.op = .call { callee := .builtin .append, args := #[s, x], argTypes := #[22, 22] })
    (B n c : Nat) (A : Option Addr) (l : List UInt8) (hs : a.eval s = .slice A n c) (hown : OB w B A n c l) (X : Option Addr) (m d : Nat) (news : List UInt8) (hx : a.eval x = .slice X m d) (hr : RB w X m news) (hb : n + m ≤ 211106232532992) (hbase : B ≤ w.heap.size)
    (h : ∀ A' c' w', OB w' B A' (n + m) c' (l ++ news) → w.grownBy w' (A.map (·.block)) → (A'.map (·.block) = A.map (·.block) ∨ A'.map (·.block) = some w.heap.size) → wpList Tryd.prog ops Q rest (a.put o.dst (.slice A' (n + m) c')) w') :
    wpList Tryd.prog ops Q (o :: rest) a w :=
  wpList_step fun K hK => by
    rw [if_pos hw]
    exact wp_appB s x ho B n c A l hs hown X m d news hx hr hb hbase fun A' c' w' h2 h3 h4 => hK _ _ (h A' c' w' h2 h3 h4)

theorem step_appB {E : Prop} (hgd : o.guard = none) (s x : Operand)
    (ho : o.op = .call { callee := .builtin .append, args := #[s, x], argTypes := #[22, 22] })
    (B n c : Nat) (A : Option Addr) (l : List UInt8) (hs : a.eval s = .slice A n c) (hown : OB w B A n c l) (X : Option Addr) (m d : Nat) (news : List UInt8) (hx : a.eval x = .slice X m d) (hr : RB w X m news) (hb : n + m ≤ 211106232532992) (hbase : B ≤ w.heap.size)
    (h : ∀ A' c' w', OB w' B A' (n + m) c' (l ++ news) → w.grownBy w' (A.map (·.block)) → (A'.map (·.block) = A.map (·.block) ∨ A'.map (·.block) = some w.heap.size) → K (a.put o.dst (.slice A' (n + m) c')) w') :
    if Region.wanted o (yielded ops a.tmps) = true then Oper.wp Tryd.prog o a w K Q else E := by
  have hw : Region.wanted o (yielded ops a.tmps) = true := by simp [Region.wanted, hgd]
  rw [if_pos hw]
  exact wp_appB s x ho B n c A l hs hown X m d news hx hr hb hbase h
end

/-- A row of the call's own is written: what lay below B stands. -/
theorem below_app {B0 B : Nat} {w0 w w' : World} {A : Option Addr} (hb : Below B0 w0 w) (hg : w.grownBy w' (A.map (·.block))) (hB : B0 ≤ w.heap.size) (hA : ∀ b o, A = some ⟨b, o, none⟩ → B0 ≤ b) (hs : ∀ x, A = some x → x.spot = none) : Below B0 w0 w' :=
  hb.grown hg hB (fun k hk => by
    cases A with
    | none => cases hk
    | some x =>
      obtain ⟨b, o, sp⟩ := x
      have := hs _ rfl
      simp only at this
      subst this
      simp only [Option.map_some, Option.some.injEq] at hk
      subst hk
      exact hA _ _ rfl)

theorem OB.spot {w : World} {B n c : Nat} {A : Option Addr} {l : List UInt8} (h : OB w B A n c l) : ∀ x, A = some x → x.spot = none := by
  intro x e
  subst e
  rcases h.2.2 with ⟨he, _⟩ | ⟨g, cap, cur, hv, _⟩
  · injection he with e; cases e
  · injection hv with e; injection e with e; rw [e]

/-- The same, said of an owned row. -/
theorem OB.grows {B0 B n c : Nat} {w0 w w' : World} {A : Option Addr} {l : List UInt8} (h : OB w B A n c l) (hb : Below B0 w0 w) (hg : w.grownBy w' (A.map (·.block))) (hB : B0 ≤ B) (hw : B0 ≤ w.heap.size) : Below B0 w0 w' :=
  below_app (B := B) hb hg hw (fun b o e => Nat.le_trans hB (h.block b o e).1) h.spot

end Go.Proofs.YtgkpekdgdiphdaaDoor
