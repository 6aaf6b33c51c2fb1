/-
  Contract: the thin package's EncodeParts.
-/
import Derived.Test.YtjappdmaeppcfaaEncParts
namespace Go.Proofs.Ytjappdmaeppcfaa
open Go.RowKit Go.Lib
set_option linter.unusedVariables false
attribute [local go_sem ↓] Go.wp_at_zero Go.wp_at_succ

theorem encMethod (a : Addr) (w : World) : (method 189 52 (.pointer (some a)) "Write").run Try.prog w = .ok (43, .pointer (some a)) w := by kernel_rfl
theorem encAhead (a : Addr) (w : World) : (nilAhead 189 52 (.pointer (some a)) "Write").run Try.prog w = .ok (some false) w := by kernel_rfl

theorem flatten_take_le (ls : List (List UInt8)) (k : Nat) : (ls.take k).flatten.length ≤ ls.flatten.length := by
  have := congrArg (fun x => x.flatten.length) (List.take_append_drop k ls)
  simp only [List.flatten_append, List.length_append] at this
  omega

set_option maxHeartbeats 1000000 in
set_option maxRecDepth 100000 in
/-- The thin package's EncodeParts: the text of all parts together. -/
theorem encodeParts (A : Option Addr) (n c : Nat) (ls : List (List UInt8)) (w : World) (h : RP w A n ls) (hn : n ≤ 140737488351232) (hbig : 2 * ls.flatten.length ≤ 140737488355328) :
    Calls Try.prog 6 #[.slice A n c] w fun e w' => ∃ s : ByteArray, e = .returned (.string s) ∧ Hid (s.toList = Hx.encode ls.flatten) ∧ Hid (s.size = 2 * ls.flatten.length) ∧ Below w.heap.size w w' := by
  have HP := Lib.hid h
  have hm := encMethod
  have hna := encAhead
  clear h
  go_enter Try.func6, Try.ntmps6
  go_wp2_with fail
  refine (newEncoder _ _ _).mono ?_
  rintro e w1 ⟨rfl, hE, o1, rfl⟩
  have HS : Hid (BufS w.heap.size w.heap.size [] ((w.alloc (.cells #[.slice none 0 0, .int .i64 0, .int .i8 0] 36)).alloc o1)) := (Lib.fresh_isBuffer 36 5 w).alloc o1
  have HE : Hid (Enc ((w.alloc (.cells #[.slice none 0 0, .int .i64 0, .int .i8 0] 36)).alloc o1) (w.heap.size + 1) 40 w.heap.size) := by simpa [Hid] using hE
  have HB : Hid (Below w.heap.size w ((w.alloc (.cells #[.slice none 0 0, .int .i64 0, .int .i8 0] 36)).alloc o1)) := ((Below.refl _ w).alloc (Nat.le_refl _) _).alloc (by simp) _
  clear hE
  go_wp2_with fail
  go_loopw [5] (fun vi wr => ∃ k : Nat, k ≤ n ∧ vi = .int .i64 k ∧ Hid (BufS w.heap.size w.heap.size (Hx.encode (ls.take k).flatten) wr) ∧ Hid (Enc wr (w.heap.size + 1) 40 w.heap.size) ∧ Hid (Below w.heap.size w wr)) (fun vi _ => n - (RowKit.intOf vi).toNat)
  case atStart => exact ⟨0, Nat.zero_le _, rfl, HS, HE, HB⟩
  case round =>
    obtain ⟨k, hk, rfl, hS, hE, hB⟩ := hrel
    by_cases hlt : k < n
    · obtain ⟨b, o, l, Y, m, c2, rfl, hbs, hl, hcell, hR, hc1, hc2⟩ := HP.out.at_ hlt
      have hcx : wr.cell? ⟨b, o + k, none⟩ = some (.slice Y m c2) := (hB.out.cell (p := ⟨b, o + k, none⟩) hbs).trans hcell
      have HF : Hid ((ls.take (k + 1)).flatten = (ls.take k).flatten ++ l) := by
        obtain ⟨hk', e⟩ := List.getElem?_eq_some_iff.1 hl
        rw [Hid, List.take_succ_eq_append_getElem hk', e]; simp
      have hfit : (Hx.encode (ls.take k).flatten).length + 2 * m ≤ 140737488355328 := by
        have h1 := flatten_take_le ls (k + 1)
        rw [HF.out, List.length_append, hR.len] at h1
        rw [Hx.encode_length]
        omega
      have HR := Lib.hid hR
      have hkn : (k : Int) < (n : Int) := by omega
      clear hcell hR hl
      go_wp2_with fail
      go_region_with (go_at_call 43; (refine (encWrite 40 36 w.heap.size (w.heap.size + 1) w (BufS w.heap.size w.heap.size) (bufSink _ _ (Nat.le_refl _)) (by omega) (by omega) Y m c2 l _ _ HR.out hc1 hc2 ?_ ?_ ?_ hfit).mono ?_; exact hB.out.drew; exact hS.out; exact hE.out; rintro e w2 ⟨rfl, hs2, he2, hb2⟩))
      all_goals
        have HS2 : Hid (BufS w.heap.size w.heap.size (Hx.encode (ls.take (k + 1)).flatten) w2) := by
          rw [Hid, HF.out, Hex.encode_append]
          exact hs2
        have HE2 := Lib.hid he2
        have HB2 := Lib.hid hb2
        clear hs2 he2 hb2
        go_wp2_with fail
        go_roundw
        case rel => exact ⟨k + 1, by omega, by go_num, HS2, HE2, HB2⟩
        case measure => simp [RowKit.intOf]; omega
    · have hk2 : k = n := by omega
      subst hk2
      have e : ls.take k = ls := by rw [← HP.out.len, List.take_length]
      rw [e] at hS
      clear e
      go_wp2_with fail
      refine (Try.Buffer_String w.heap.size w.heap.size (Hx.encode ls.flatten) _ hS.out).mono ?_
      rintro e w3 ⟨rfl, q, rfl⟩
      go_wp2_with fail
      go_ret
      exact ⟨⟨(Hx.encode ls.flatten).toArray⟩, rfl, by simp [Hid, Go.ByteArray.toList_eq], by
        show (Hx.encode ls.flatten).toArray.size = _
        rw [List.size_toArray, Hx.encode_length], below_drewN hB.out _⟩
end Go.Proofs.Ytjappdmaeppcfaa
