/-
  Contract: the laws' own digits.
-/
import Derived.Test.YtnplhpckjcmgmaaDoorDigit
namespace Go.Proofs.YtnplhpckjcmgmaaDoor
open Go.RowKit Go.Lib
set_option linter.unusedVariables false

theorem all_step (s : ByteArray) (k : Nat) (hk : k < s.size) : (s.toList.take (k + 1)).all digB = ((s.toList.take k).all digB && digB s[k]) := by
  have hk' : k < s.toList.length := by rw [Go.ByteArray.toList_eq, Array.length_toList]; exact hk
  rw [List.take_succ_eq_append_getElem hk', List.all_append]
  have e : s.toList[k]'hk' = s[k] := by
    have : s.toList[k]? = some s[k] := by
      rw [Go.ByteArray.toList_eq, Array.getElem?_toList, Array.getElem?_eq_getElem hk]
      rfl
    rw [List.getElem?_eq_getElem hk'] at this
    exact Option.some.inj this
  simp [e]
theorem all_no (l : List UInt8) (k : Nat) (h : (l.take k).all digB = false) : l.all digB = false := by
  rw [← List.take_append_drop k l, List.all_append, h]
  rfl

set_option maxHeartbeats 1000000 in
theorem digits_any (s : ByteArray) (w : World) (hs : s.size ≤ 281474976710656) :
    Calls Tryd.prog 16 #[.string s] w fun e w' => e = .returned (.bool (s.toList.all digB)) ∧ w = w' := by
  go_enter Tryd.func16, Tryd.ntmps16
  go_wp2
  go_loop [3] (fun i => ∃ k : Nat, k ≤ s.size ∧ i = .int .i64 k ∧ Hid ((s.toList.take k).all digB = true)) (fun i => s.size - (RowKit.intOf i).toNat)
  case atStart => exact ⟨0, Nat.zero_le _, rfl, rfl⟩
  case round =>
    obtain ⟨k, hk, rfl, hall⟩ := hrel
    by_cases hlt : k < s.size
    · have hst := Lib.hid (all_step s k hlt)
      cases hd : digB s[k]
      · have HN : Hid (s.toList.all digB = false) := all_no _ (k + 1) (by rw [hst.out, hd]; simp)
        go_wp2_with fail
        refine (digit_any _ _).mono ?_
        rintro e w' ⟨rfl, rfl⟩
        rw [hd]
        clear hd
        go_wp2_with fail
        go_ret
        exact ⟨ret_bool HN.out.symm, rfl⟩
      · have HN : Hid ((s.toList.take (k + 1)).all digB = true) := by rw [Hid, hst.out, hd, hall.out]; rfl
        go_wp2_with fail
        refine (digit_any _ _).mono ?_
        rintro e w' ⟨rfl, rfl⟩
        rw [hd]
        clear hd
        go_wp2_with fail
        exact ⟨⟨k + 1, by omega, by go_num, HN⟩, by simp [RowKit.intOf]; omega⟩
    · obtain rfl : k = s.size := by omega
      have hl : s.toList.length = s.size := by rw [Go.ByteArray.toList_eq]; exact Array.length_toList
      have e : s.toList.all digB = true := by rw [← List.take_length (l := s.toList), hl]; exact hall.out
      have HE := Lib.hid e
      clear e hl
      go_wp2
      go_ret
      exact ⟨ret_bool HE.out.symm, rfl⟩

end Go.Proofs.YtnplhpckjcmgmaaDoor
