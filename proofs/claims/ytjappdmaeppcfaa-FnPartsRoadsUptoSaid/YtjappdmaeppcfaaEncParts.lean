/-
  Contracts: encoding/hex.NewEncoder over a sink; the thin package's EncodeParts.
-/
import Derived.Test.YtjappdmaeppcfaaEncWrite
namespace Go.Proofs.Ytjappdmaeppcfaa
open Go.RowKit Go.Lib
set_option linter.unusedVariables false
attribute [local go_sem ↓] Go.wp_at_zero Go.wp_at_succ

def encCells (v : Value) : Array Value := #[v, .nilIface] ++ Array.replicate 1024 (.int .u8 0)

theorem encCells_row (w : World) (v : Value) : (w.alloc (.cells (encCells v) 55)).rowIs w.heap.size 55 1026 (fun i => if i = 0 then v else if i = 1 then .nilIface else .int .u8 0) := by
  have h := World.rowIs_alloc w (encCells v) 55 (fun i => if i = 0 then v else if i = 1 then .nilIface else .int .u8 0) (fun i hi => by
    match i with
    | 0 => unfold encCells; rw [Array.getElem?_append_left (by simp)]; rfl
    | 1 => unfold encCells; rw [Array.getElem?_append_left (by simp)]; rfl
    | i + 2 =>
      have : i < 1024 := by simp [encCells] at hi; omega
      unfold encCells
      rw [Array.getElem?_append_right (by simp)]
      simp [this])
  have e : (encCells v).size = 1026 := by simp [encCells]
  rwa [e] at h

theorem wpList_val {a : Act} {o : Oper} {ops : Array Oper} {rest : List Oper} {Q : Exit → Act → World → Prop} {w : World} (hgd : o.guard = none) (v : Value) (w' : World) (hrun : (execOp a.eval o).run Try.prog w = .ok (.value v) w') (h : wpList Try.prog ops Q rest (a.put o.dst v) w') : wpList Try.prog ops Q (o :: rest) a w :=
  wpList_plain hgd fun K hK => by unfold Oper.wp; rw [hrun, Oper.upon_value]; exact hK _ _ h

theorem encBuild (T b : Nat) (w : World) : (Instr.build 55 #[(0, .iface T (.pointer (some ⟨b, 0, none⟩)))]).run Try.prog w = .ok (.agg (encCells (.iface T (.pointer (some ⟨b, 0, none⟩))))) w := by kernel_rfl

theorem encBox (v : Value) (w : World) : (Instr.box 55 (.agg (encCells v))).run Try.prog w = .ok (.pointer (some ⟨w.heap.size, 0, none⟩)) (w.alloc (.cells (encCells v) 55)) := by kernel_rfl

set_option maxHeartbeats 400000 in
set_option maxRecDepth 100000 in
theorem newEncoder (T b : Nat) (w : World) : Calls Try.prog 12 #[.iface T (.pointer (some ⟨b, 0, none⟩))] w fun e w' => e = .returned (.iface 52 (.pointer (some ⟨w.heap.size, 0, none⟩))) ∧ Enc w' w.heap.size T b ∧ ∃ o, w' = w.alloc o := by
  have hbd := encBuild T b
  have hbx := encBox (.iface T (.pointer (some ⟨b, 0, none⟩)))
  have HR := Lib.hid (encCells_row w (.iface T (.pointer (some ⟨b, 0, none⟩))))
  generalize encCells (.iface T (.pointer (some ⟨b, 0, none⟩))) = C at *
  have HBD := Lib.hid hbd
  have HBX := Lib.hid hbx
  clear hbd hbx
  go_enter Try.func12, Try.ntmps12
  go_wp2_with (first | (refine wpList_val (o := ⟨some 4, _, _, _, _, _⟩) rfl (.agg C) w ?_ ?_; (unfold execOp; simp only [Sem.run_bind, Sem.run_pure, List.map_toArray, List.map_cons, List.map_nil]; exact congrArg (fun r => Result.andThen r _) (HBD.out w))) | (refine wpList_val (o := ⟨some 5, _, _, _, _, _⟩) rfl (.pointer (some ⟨w.heap.size, 0, none⟩)) (w.alloc (.cells C 55)) ?_ ?_; exact congrArg (fun r => Result.andThen r _) (HBX.out w)))
  go_outline
  go_ret
  exact ⟨rfl, ⟨_, HR.out, rfl, rfl⟩, _, rfl⟩
end Go.Proofs.Ytjappdmaeppcfaa
