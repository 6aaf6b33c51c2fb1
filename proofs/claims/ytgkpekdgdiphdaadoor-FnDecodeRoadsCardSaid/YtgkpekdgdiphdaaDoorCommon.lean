/-
  What the walks of this seat share: a slice of bytes that reads as a list ('RB'), how an argument is opened, and small facts on worlds.
-/
import Derived.Test.YtgkpekdgdiphdaaDoorRows
import Derived.Test.YtgkpekdgdiphdaaDoorPure
import Derived.WalkKit
import Derived.WalkLawsBesides
import Derived.ProofKit
import Derived.OpenShut
import Derived.ShutString
import Derived.ChangeOld
import Derived.Below
import Derived.SizedLaws
import Derived.Deep.CondSized
import Derived.Lib.HexFns2
import Derived.Lib.Hide
import Derived.Lib.Strings
import Derived.Deep.RegionWith
import Derived.Deep.RegionHeld3
import Derived.IntWalk
import Derived.Outline
import Derived.Deep.QuietTactic
import Derived.BigQuiet
import Derived.Deep.OwnRows
import Derived.Deep.Draws
import Derived.Laws.IdiomStrings
namespace Go.Proofs.YtgkpekdgdiphdaaDoor
open Go.ChangeShapes Go.WideShapes Go.ChangeAt Go.RowKit
open Go.ChangeMaps (open_string shut_string)
set_option linter.unusedVariables false

theorem own : ownKnob Tryd.prog.godebug = none := by kernel_rfl
theorem laidOut : laidOutB Tryd.prog = true := by kernel_rfl

theorem ret_true {b : Bool} (h : b = true) : Ending.returned (.bool b) = .returned (.bool true) := by rw [h]
theorem ret_bool {a b : Bool} (h : a = b) : Ending.returned (.bool a) = .returned (.bool b) := by rw [h]
theorem ret_int {k : IntKind} {a b : Int} (h : a = b) : Ending.returned (.int k a) = .returned (.int k b) := by rw [h]

theorem ext_list (s : ByteArray) (a b : Nat) : (s.extract a b).toList = (s.toList.drop a).take (b - a) := by
  rw [Go.ByteArray.toList_eq, Lib.extract_data, Go.ByteArray.toList_eq]

/-! ### A slice of bytes that reads as a list; nil is let in -/

def RB (w : World) (A : Option Addr) (n : Nat) (l : List UInt8) : Prop :=
  l.length = n ∧ (0 < n → ∃ b o, A = some ⟨b, o, none⟩ ∧ b < w.heap.size ∧ ∀ i c, l[i]? = some c → w.cell? ⟨b, o + i, none⟩ = some (.int .u8 (c.toNat : Int)))

section
variable {w w' : World} {A : Option Addr} {n : Nat} {l : List UInt8}

theorem RB.len (h : RB w A n l) : l.length = n := h.1

theorem RB.nil_ (w : World) (A : Option Addr) : RB w A 0 [] := ⟨rfl, fun h => absurd h (by omega)⟩

theorem RB.at_ (h : RB w A n l) {k : Nat} (hk : k < n) : ∃ b o c, A = some ⟨b, o, none⟩ ∧ b < w.heap.size ∧ l[k]? = some c ∧ w.cell? ⟨b, o + k, none⟩ = some (.int .u8 (c.toNat : Int)) := by
  obtain ⟨b, o, e, hb, hc⟩ := h.2 (by omega)
  have hl : k < l.length := by rw [h.1]; exact hk
  exact ⟨b, o, l[k], e, hb, List.getElem?_eq_getElem hl, hc k _ (List.getElem?_eq_getElem hl)⟩

theorem RB.keep (h : RB w A n l) (hs : w.heap.size ≤ w'.heap.size) (hk : ∀ p : Addr, p.block < w.heap.size → w'.cell? p = w.cell? p) : RB w' A n l :=
  ⟨h.1, fun hn => by
    obtain ⟨b, o, e, hb, hc⟩ := h.2 hn
    exact ⟨b, o, e, by omega, fun i c hi => (hk ⟨b, o + i, none⟩ hb).trans (hc i c hi)⟩⟩

theorem RB.below (h : RB w A n l) (hb : Below w.heap.size w w') : RB w' A n l := h.keep hb.size fun _ hp => hb.cell hp
theorem RB.drew (h : RB w A n l) : RB w.drew A n l := h
theorem RB.drewN (h : RB w A n l) (k : Nat) : RB (w.drewN k) A n l := h
theorem RB.alloc (h : RB w A n l) (o : Obj) : RB (w.alloc o) A n l := h.keep (by simp) fun p hp => World.cell?_alloc_lt w o p hp

/-- A block that is written stands apart from the row. -/
theorem RB.grown (h : RB w A n l) {row : Option Nat} (hg : w.grownBy w' row) (hne : ∀ b o, A = some ⟨b, o, none⟩ → row ≠ some b) : RB w' A n l :=
  ⟨h.1, fun hn => by
    obtain ⟨b, o, e, hb, hc⟩ := h.2 hn
    exact ⟨b, o, e, Nat.lt_of_lt_of_le hb hg.size, fun i c hi => hg.cell (hc i c hi) (fun e' => hne b o e e'.symm)⟩⟩
end

/-! ### An argument that is a slice of bytes -/

theorem weigh {H : Type} {P : Program} {ts : List TypeId} {ds : List (DataW H)} (h : (DataW.weightsEach P ts ds).all (· ≤ reachBytes) = true) {j : Nat} {t : TypeId} {d : DataW H} (ht : ts[j]? = some t) (hd : ds[j]? = some d) :
    ∀ n ∈ d.weights P t, n ≤ reachBytes := fun n hn => by
  have := List.all_eq_true.1 h n (DataW.weights_mem_each ht hd n hn)
  simpa using this

theorem bulk_lits {H : Type} (k : IntKind) (zs : List Int) : Rows.uptoBulkAll (lits (H := H) k zs) = zs.length := by
  induction zs with
  | nil => simp [lits, Rows.uptoBulkAll]
  | cons z t ih =>
    have e : lits (H := H) k (z :: t) = .lit (.int k z) :: lits k t := rfl
    rw [e]
    simp only [Rows.uptoBulkAll, Rows.uptoBulk, ih, List.length_cons]
    omega

theorem byte_wf {x : Int} (h : (Lit.int .u8 x).wf = true) : 0 ≤ x ∧ x < 256 := by
  have : 0 ≤ x ∧ x ≤ 255 := by simpa [Lit.wf, IntKind.min, IntKind.max, IntKind.signed, IntKind.bits] using h
  omega

theorem int_wf {x : Int} (h : (Lit.int .i64 x).wf = true) : -9223372036854775808 ≤ x ∧ x ≤ 9223372036854775807 := by
  simpa [Lit.wf, IntKind.min, IntKind.max, IntKind.signed, IntKind.bits] using h

theorem byte_of {x : Int} (h : (Lit.int .u8 x).wf = true) : ∃ c : UInt8, x = (c.toNat : Int) := by
  have := byte_wf h
  exact ⟨UInt8.ofNat x.toNat, by rw [UInt8.toNat_ofNat']; omega⟩

/-- What a string that came in is told to be. -/
theorem argS {H : Type} {s : ByteArray} {t : TypeId} (hw : ∀ n ∈ (DataW.lit (H := H) (.string s.data.toList)).weights Tryd.prog t, n ≤ reachBytes) :
    s.size ≤ 140737488351232 ∧ s.size + 1 ≤ Rows.uptoBulk (DataW.lit (H := H) (.string s.data.toList)) := by
  have h1 := hw s.data.toList.length (by simp [DataW.weights])
  have e : s.data.toList.length = s.size := Array.length_toList
  simp only [reachBytes] at h1
  refine ⟨by omega, ?_⟩
  simp only [Rows.uptoBulk]
  omega

/-- What a []byte that came in is told to be: its list; its room; its share of the reading's bulk. -/
theorem argB {H : Type} {enc : TypeId × Value → H} {W : World} {A : Option Addr} {len cap : Nat} {d : DataW H} {p : List MemPlace}
    (h : DataW.Trod enc Tryd.prog W 0 (fun _ => true) true 22 (.slice A len cap) d p) (hw : ∀ n ∈ d.weights Tryd.prog 22, n ≤ reachBytes) :
    ∃ l : List UInt8, RB W A len l ∧ len ≤ cap ∧ cap ≤ 140737488351232 ∧ cap + 1 ≤ Rows.uptoBulk d := by
  obtain ⟨fuel, hf⟩ := h
  have hp := DataW.trod_lt fuel _ _ _ hf
  rcases open_ints Tryd.underlying22 Tryd.underlying5 (by kernel_rfl) hf with ⟨hcs, hx⟩ | ⟨x, l, c, zs, hcs, _, hl, hm, hz, hx, hcell, hwz⟩
  · simp [Value.cells] at hcs
    obtain ⟨rfl, rfl, rfl⟩ := hcs
    simp only [Prod.mk.injEq] at hx
    obtain ⟨rfl, rfl⟩ := hx
    exact ⟨[], RB.nil_ _ _, Nat.le_refl _, by omega, by simp [Rows.uptoBulk]⟩
  · simp [Value.cells] at hcs
    obtain ⟨rfl, rfl, rfl⟩ := hcs
    simp only [Prod.mk.injEq] at hx
    obtain ⟨rfl, rfl⟩ := hx
    have hz' : zs.length = cap := by simpa using hz
    have hby : Tryd.prog.bytesOf 5 = 1 := by kernel_rfl
    have hg : cap ≤ 140737488351232 := by
      have h1 := hw (((lits (H := H) .u8 (zs.take len)).length + (lits (H := H) .u8 (zs.drop len)).length) * Tryd.prog.bytesOf 5) (by simp [DataW.weights, Tryd.underlying22])
      rw [hby] at h1
      simp only [lits, List.length_map, List.length_take, List.length_drop, reachBytes] at h1
      omega
    refine ⟨(zs.take len).map fun z => UInt8.ofNat z.toNat, ⟨by simp; omega, fun hn => ?_⟩, hl, hg, ?_⟩
    · have h0 := hcell 0 (by omega)
      obtain ⟨b, o, sp⟩ := x
      have hsp : sp = none := by simpa [Addr.add] using World.cell?_spot h0
      subst hsp
      refine ⟨b, o, rfl, ?_, fun i c hi => ?_⟩
      · have := World.block_lt_of_cell? W _ h0
        simpa [Addr.add] using this
      · rw [List.getElem?_map, List.getElem?_take] at hi
        by_cases hil : i < len
        · rw [if_pos hil, List.getElem?_eq_getElem (by omega)] at hi
          simp only [Option.map_some, Option.some.injEq] at hi
          have hmem : zs[i]'(by omega) ∈ zs := List.getElem_mem _
          have hb := byte_wf (hwz _ hmem)
          have hci := hcell i (by omega)
          have hgd : zs.getD i 0 = zs[i]'(by omega) := by
            rw [List.getD_eq_getElem?_getD, List.getElem?_eq_getElem (by omega)]; rfl
          rw [hgd] at hci
          have e1 : (c.toNat : Int) = zs[i]'(by omega) := by
            rw [← hi, UInt8.toNat_ofNat']; omega
          rw [e1]
          have e2 : (⟨b, o, none⟩ : Addr).add i = ⟨b, o + i, none⟩ := by
            unfold Addr.add
            split
            · rename_i h0; subst h0; simp
            · rfl
          rw [← e2]; exact hci
        · rw [if_neg hil] at hi; cases hi
    · simp only [Rows.uptoBulk, bulk_lits, List.length_take, List.length_drop]
      omega

end Go.Proofs.YtgkpekdgdiphdaaDoor
