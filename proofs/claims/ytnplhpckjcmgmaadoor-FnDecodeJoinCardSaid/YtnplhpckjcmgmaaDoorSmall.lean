/-
  A row of bytes made by a conversion, written in place ('WL'); the contract of the laws' helper small.
-/
import Derived.Test.YtnplhpckjcmgmaaDoorDigit
namespace Go.Proofs.YtnplhpckjcmgmaaDoor
open Go.RowKit Go.Lib
set_option linter.unusedVariables false

/-- Block b holds the bytes l from its head on, and may be written there. -/
def WL (w : World) (b : Nat) (l : List UInt8) : Prop := b < w.heap.size ∧ ∀ i c, l[i]? = some c → w.cell? ⟨b, i, none⟩ = some (.int .u8 (c.toNat : Int)) ∧ w.frozen? ⟨b, i, none⟩ = false

theorem WL.cell {w : World} {b : Nat} {l : List UInt8} (h : WL w b l) {i : Nat} {c : UInt8} (hi : l[i]? = some c) : w.cell? ⟨b, i, none⟩ = some (.int .u8 (c.toNat : Int)) := (h.2 i c hi).1
theorem WL.free {w : World} {b : Nat} {l : List UInt8} (h : WL w b l) {i : Nat} {c : UInt8} (hi : l[i]? = some c) : w.frozen? ⟨b, i, none⟩ = false := (h.2 i c hi).2
theorem WL.rb {w : World} {b : Nat} {l : List UInt8} (h : WL w b l) : RB w (some ⟨b, 0, none⟩) l.length l :=
  ⟨rfl, fun _ => ⟨b, 0, rfl, h.1, fun i c hi => by rw [Nat.zero_add]; exact h.cell hi⟩⟩

theorem WL.set {w : World} {b : Nat} {l : List UInt8} (h : WL w b l) (i : Nat) (d : UInt8) (hi : i < l.length) : WL (w.setCell ⟨b, i, none⟩ (.int .u8 (d.toNat : Int))) b (l.set i d) := by
  refine ⟨by simpa [World.setCell] using h.1, fun j c hj => ?_⟩
  have hold := h.cell (List.getElem?_eq_getElem hi)
  refine ⟨?_, ?_⟩
  · by_cases e : i = j
    · subst e
      rw [List.getElem?_set_self hi] at hj
      injection hj with hj
      subst hj
      exact World.cell?_setCell_same w ⟨b, i, none⟩ _ hold
    · rw [List.getElem?_set_ne e] at hj
      rw [World.cell?_setCell_other w ⟨b, i, none⟩ ⟨b, j, none⟩ _ (fun e' => e (by injection e'))]
      exact h.cell hj
  · have hj' : j < l.length := by
      have := (List.getElem?_eq_some_iff.1 hj).1
      simpa using this
    rw [World.frozen?_setCell]
    exact h.free (List.getElem?_eq_getElem hj')

theorem WL.ofText (w : World) (s : ByteArray) : WL (Lib.bytesWorld w 5 s) w.heap.size s.data.toList := by
  refine ⟨by rw [Lib.bytesWorld_size]; omega, fun i c hi => ?_⟩
  have hi' : i < s.size := by have := (List.getElem?_eq_some_iff.1 hi).1; rwa [Array.length_toList] at this
  refine ⟨?_, ?_⟩
  · rw [Lib.bytesWorld_cell w _ s i hi', List.getD_eq_getElem?_getD, hi]
    rfl
  · unfold World.frozen?
    rw [Lib.bytesWorld_at_new]
    have : i < (Lib.bytesCells w 5 s).size := by simp [Lib.bytesCells]; omega
    simp
    omega

/-- What small has made of l after k rounds. -/
def lowTo (l : List UInt8) (k : Nat) : List UInt8 := (l.take k).map Hex.lower ++ l.drop k

theorem lowTo_length (l : List UInt8) (k : Nat) : (lowTo l k).length = l.length := by
  unfold lowTo
  rw [List.length_append, List.length_map, List.length_take, List.length_drop]
  omega
theorem lowTo_at (l : List UInt8) (k : Nat) (c : UInt8) (h : l[k]? = some c) : (lowTo l k)[k]? = some c := by
  have hk := (List.getElem?_eq_some_iff.1 h).1
  unfold lowTo
  rw [List.getElem?_append_right (by simp; omega), List.length_map, List.length_take, List.getElem?_drop, show k + (k - min k l.length) = k by omega, h]
theorem lowTo_step (l : List UInt8) (k : Nat) (c : UInt8) (h : l[k]? = some c) : (lowTo l k).set k (Hex.lower c) = lowTo l (k + 1) := by
  obtain ⟨hk, e⟩ := List.getElem?_eq_some_iff.1 h
  have h1 : ((l.take k).map Hex.lower).length = k := by rw [List.length_map, List.length_take]; omega
  unfold lowTo
  rw [List.drop_eq_getElem_cons hk, e, List.take_succ_eq_append_getElem hk, e, List.map_append, List.append_assoc, List.set_append_right _ _ (by omega), h1, Nat.sub_self]
  rfl
theorem lowTo_keep (l : List UInt8) (k : Nat) (c : UInt8) (h : l[k]? = some c) (hc : Hex.lower c = c) : lowTo l (k + 1) = lowTo l k := by
  have h1 := lowTo_step l k c h
  rw [hc] at h1
  obtain ⟨hk', e'⟩ := List.getElem?_eq_some_iff.1 (lowTo_at l k c h)
  rw [← h1]
  conv => lhs; rw [← e']
  rw [List.set_getElem_self]

set_option maxHeartbeats 1000000 in
set_option maxRecDepth 100000 in
theorem small_any (s : ByteArray) (w : World) (hbig : s.size ≤ 562949953421312) :
    Calls Tryd.prog 14 #[.string s] w fun e w' => ∃ t : ByteArray, e = .returned (.string t) ∧ Hid (t.toList = s.toList.map Hex.lower) ∧ Below w.heap.size w w' := by
  have hcv := fun W => Lib.run_convert_string_bytes (P := Tryd.prog) W 9 22 5 s Tryd.underlying9 Tryd.underlying22 Tryd.underlying5
  have hlen := Lib.hid (show s.data.toList.length = s.size from Array.length_toList)
  go_enter Tryd.func14, Tryd.ntmps14
  go_wp2_with fail
  clear hcv
  go_loopw [4] (fun i wr => ∃ k : Nat, k ≤ s.size ∧ i = .int .i64 k ∧ Hid (WL wr w.heap.size (lowTo s.data.toList k)) ∧ Hid (Below w.heap.size w wr)) (fun i _ => s.size - (intOf i).toNat)
  case atStart => exact ⟨0, Nat.zero_le _, rfl, by simpa [Hid, lowTo] using WL.ofText w s, below_bytesWorld w s⟩
  case round =>
    obtain ⟨k, hk, rfl, hw, hb⟩ := hrel
    by_cases hlt : k < s.size
    · obtain ⟨cc, hcc⟩ : ∃ cc, s.data.toList[k]? = some cc := ⟨_, List.getElem?_eq_getElem (by rw [hlen.out]; exact hlt)⟩
      have hcell0 := hw.out.cell (lowTo_at _ k cc hcc)
      have hfree := hw.out.free (lowTo_at _ k cc hcc)
      obtain ⟨x, hxk⟩ : ∃ x : Int, x = (cc.toNat : Int) := ⟨_, rfl⟩
      have hcell : wr.cell? ⟨w.heap.size, k, none⟩ = some (.int .u8 x) := by rw [hxk]; exact hcell0
      have hx0 : 0 ≤ x := by omega
      have hx1 : x < 256 := by have := cc.toNat_lt; omega
      have HX := Lib.hid hxk
      have HC := Lib.hid hcc
      clear hxk hcc hcell0
      by_cases hin : 65 ≤ x ∧ x ≤ 90
      · obtain ⟨h1, h2⟩ := hin
        have hnew : Hid (WL (wr.setCell ⟨w.heap.size, k, none⟩ (.int .u8 (x - 65 + 97))) w.heap.size (lowTo s.data.toList (k + 1))) := by
          have h3 := hw.out.set k (Hex.lower cc) (by rw [lowTo_length, hlen.out]; exact hlt)
          rw [lowTo_step _ k cc HC.out] at h3
          have e : ((Hex.lower cc).toNat : Int) = x - 65 + 97 := by
            have := HX.out
            unfold Hex.lower
            rw [if_pos (by omega), UInt8.toNat_ofNat']
            omega
          rw [e] at h3
          exact h3
        have hbn : Hid (Below w.heap.size w (wr.setCell ⟨w.heap.size, k, none⟩ (.int .u8 (x - 65 + 97)))) := hb.out.setCell (Nat.le_refl _) _
        go_wp2_with fail
        exact ⟨⟨k + 1, by omega, by go_num, hnew, hbn⟩, by simp [intOf]; omega⟩
      · have hnew : Hid (WL wr w.heap.size (lowTo s.data.toList (k + 1))) := by
          have e : Hex.lower cc = cc := by
            have := HX.out
            unfold Hex.lower
            rw [if_neg (by omega)]
          rw [lowTo_keep _ k cc HC.out e]
          exact hw.out
        by_cases h1 : 65 ≤ x
        · have h2 : 90 < x := by omega
          clear hin
          go_wp2_with fail
          exact ⟨⟨k + 1, by omega, by go_num, hnew, hb⟩, by simp [intOf]; omega⟩
        · clear hin
          go_wp2_with fail
          exact ⟨⟨k + 1, by omega, by go_num, hnew, hb⟩, by simp [intOf]; omega⟩
    · obtain rfl : k = s.size := by omega
      have e : lowTo s.data.toList s.size = s.data.toList.map Hex.lower := by
        unfold lowTo
        rw [← hlen.out, List.take_length, List.drop_length, List.append_nil]
      have hw2 : RB wr (some ⟨w.heap.size, 0, none⟩) s.size (s.data.toList.map Hex.lower) := by
        have := hw.out.rb
        rwa [e, List.length_map, hlen.out] at this
      have q := conv hw2 (grownCap w s.size 0 5)
      clear hw2 e
      go_wp2_with fail
      go_ret
      exact ⟨_, rfl, by simp [Hid, Go.ByteArray.toList_eq], hb.out⟩

end Go.Proofs.YtnplhpckjcmgmaaDoor
