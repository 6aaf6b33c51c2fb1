/-
  Contract: the thin package's pieces, its Read.
-/
import Derived.Test.YthldocgabpbgmaaDoorCopy
import Derived.Test.YthldocgabpbgmaaDoorEnding
import Derived.StillTailTactics
namespace Go.Proofs.YthldocgabpbgmaaDoor
open Go.RowKit Go.Lib
set_option linter.unusedVariables false

def upd (f : Nat → Value) (i : Nat) (v : Value) : Nat → Value := fun j => if j = i then v else f j

set_option maxHeartbeats 1000000 in
theorem piecesEnd (a b : Addr) (p : Nat) (f : Nat → Value) (A : Option Addr) (c : Nat) (D : Option Addr) (dl dc : Nat) (w : World) (hp : w.rowIs p 44 2 f) (h0 : f 0 = .slice A 0 c) (hE : ErrAt w a b) :
    Calls Tryd.prog 33 #[.pointer (some ⟨p, 0, none⟩), .slice D dl dc] w fun e w' => e = .returned (.tuple #[.int .i64 0, errV a b (some .ok)]) ∧ w' = w.drew := by
  have c0 : w.cell? ⟨p, 0, none⟩ = some (.slice A 0 c) := by rw [hp.cell (by omega), h0]
  have h1 := hE.1.1
  clear hE hp h0
  go_enter Tryd.func33, Tryd.ntmps33
  go_wp2_with fail
  go_region
  go_wp2
  go_ret2
  exact ⟨rfl, rfl⟩

set_option maxHeartbeats 1000000 in
theorem piecesSome (T : TypeId) (p d o N dl dc n c k pc : Nat) (f g : Nat → Value) (A : Option Addr) (l : List UInt8) (w : World) (hp : w.rowIs p 44 2 f) (h0 : f 0 = .slice A n c) (h1 : f 1 = .int .i64 (pc : Int)) (hr : RB w A n l)
    (hn : 0 < n) (hnc : n ≤ c) (hc : c ≤ 9223372036854775807) (hpc : pc ≤ 9223372036854775807) (hd : w.rowIs d T N g) (hpd : p ≠ d) (hk : k = min (min pc n) dl) (hfit : o + k ≤ N) :
    Calls Tryd.prog 33 #[.pointer (some ⟨p, 0, none⟩), .slice (some ⟨d, o, none⟩) dl dc] w fun e w' => e = .returned (.tuple #[.int .i64 (k : Int), .nilIface]) ∧
      ∃ w1, w1.rowIs d T N (Hx.rowP g o (l.take k)) ∧ w.grownBy w1 (some d) ∧ w' = w1.setCell ⟨p, 0, none⟩ (.slice (cutA A c k) (n - k) (c - k)) := by
  have c0 : w.cell? ⟨p, 0, none⟩ = some (.slice A n c) := by rw [hp.cell (by omega), h0]
  have c1 : w.cell? ⟨p, 1, none⟩ = some (.int .i64 (pc : Int)) := by rw [hp.cell (by omega), h1]
  obtain ⟨m, hm⟩ : ∃ m, m = min pc n := ⟨_, rfl⟩
  have hmi : (if n < pc then (n : Int) else (pc : Int)) = (m : Int) := by split <;> omega
  have hto := fun w => run_to A n c (m : Int) (by omega) (by omega) w
  have hfr := fun w => run_from A n c (k : Int) (by omega) (by omega) w
  simp only [Int.toNat_natCast] at hto hfr
  have HR : Hid (RB w.drew A m (l.take m)) := (hr.drew).to_ (by omega)
  have HD := Lib.hid hd
  have HP := Lib.hid hp
  have HK : Hid (k = min m dl) := by rw [Hid, hm]; exact hk
  have HT : Hid ((l.take m).take k = l.take k) := by rw [Hid, List.take_take]; congr 1; omega
  have hnz : ((n : Int) == 0) = false := by simp; omega
  clear hp h0 h1 hd hr hm hk
  go_enter Tryd.func33, Tryd.ntmps33
  go_wp2_with fail
  go_still_tail 16, (by kernel_rfl)
  change wpList _ _ _ _ _ w.drew
  generalize hW : w.drew = W at HR
  have HDW : Hid (W.rowIs d T N g) := by rw [← hW]; exact HD.out.drew
  have HPW : Hid (W.rowIs p 44 2 f) := by rw [← hW]; exact HP.out.drew
  have c0W : W.cell? ⟨p, 0, none⟩ = some (.slice A n c) := by rw [← hW]; exact c0
  have HWg : Hid (∀ w1, W.grownBy w1 (some d) → w.grownBy w1 (some d)) := by rw [Hid, ← hW]; exact fun w1 h => ⟨h.os, h.tape, h.output, h.size, h.block⟩
  clear hW HD HP c0 c1
  refine wpList_copyB rfl (.tmp 14) (.tmp 29) rfl T d o N dl dc g rfl HDW.out A m c (l.take m) rfl HR.out k HK.out hfit ?_
  intro w1 hr1 hg1
  rw [HT.out] at hr1
  have c0' : w1.cell? ⟨p, 0, none⟩ = some (.slice A n c) := hg1.cell c0W (by simp; exact hpd)
  have z0' : w1.frozen? ⟨p, 0, none⟩ = false := by
    rw [World.frozen?_of_block (hg1.block p HPW.out.lt (by simp; exact hpd))]
    exact HPW.out.frozen _
  have HR1 := Lib.hid hr1
  have HG1 := Lib.hid (HWg.out w1 hg1)
  clear hr1 hg1 c0W HWg
  go_wp2_with fail
  go_ret2
  exact ⟨rfl, w1, HR1.out, HG1.out, rfl⟩

end Go.Proofs.YthldocgabpbgmaaDoor
