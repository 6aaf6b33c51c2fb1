/-
  Closed facts for a walk over fmt.Sprintf, as the kit's own tool prints them for its examples, at this translation: the call, the one literal format, the one operand (an int32 under '%#U').
-/
import Derived.Test.YtejeoglpcbeaeaaFmtProg
import Derived.Stop.CallBack
import Derived.Stop.IfaceNil
import GoSem.ClaimData
namespace Go.Proofs
open Go.Extern.Stop Go.Stop Go.Extern

@[go_sem] theorem Tryf.callSprintf (args : Array Value) (w : World) : (callFunc 32 args).run Tryf.prog w = ((FmtStop.sprintf #[9, 71] #[9] args).run Tryf.prog w).andThen fun v w' => .ok (.value v) w' :=
  run_callFunc_extern Tryf.func32 (by kernel_rfl) (by kernel_rfl) (by kernel_rfl) (by kernel_rfl) args w
@[go_sem] theorem Tryf.guardFmt (name : String) (w : World) : (FmtStop.guard name).run Tryf.prog w = .ok () w := by kernel_rfl
@[go_sem] theorem Tryf.fmt4 : FmtStop.printed? ⟨#[101, 110, 99, 111, 100, 105, 110, 103, 47, 104, 101, 120, 58, 32, 105, 110, 118, 97, 108, 105, 100, 32, 98, 121, 116, 101, 58, 32, 37, 35, 85]⟩ 1 = some [(0, 85, true)] := by kernel_rfl
@[go_sem] theorem Tryf.fmt4r (w : World) : (FmtDoors.printed ⟨#[101, 110, 99, 111, 100, 105, 110, 103, 47, 104, 101, 120, 58, 32, 105, 110, 118, 97, 108, 105, 100, 32, 98, 121, 116, 101, 58, 32, 37, 35, 85]⟩ 1).run Tryf.prog w = .ok [(0, 85, true)] w := by kernel_rfl
def Tryf.shapeInt32 : List UInt8 := [4, 5, 0, 0, 0, 0, 0, 0, 0, 105, 110, 116, 51, 50]
@[go_sem] theorem Tryf.act21_85s (name : String) (x : Value) (w : World) : (FmtCalls.act name false 85 true (.iface 21 x)).run Tryf.prog w = .ok (.closed false) w := by kernel_rfl
@[go_sem] theorem Tryf.op21_85s (name : String) (x : Int) (w : World) : (FmtStop.operand name false 85 true (.iface 21 (.int .i32 x))).run Tryf.prog w = .ok (Tryf.shapeInt32, Go.Extern.Stop.digits 8 (x % 2 ^ 64).toNat) w := by kernel_rfl
@[go_sem] theorem Tryf.strInt32 (w : World) : (typeStr 21).run Tryf.prog w = .ok "int32" w := by kernel_rfl

end Go.Proofs
