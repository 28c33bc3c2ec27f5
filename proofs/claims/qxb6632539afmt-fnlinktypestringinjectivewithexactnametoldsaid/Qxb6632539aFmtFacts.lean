/-
  The closed facts for a walk over fmt.Sprintf's stop in this program (one format, one operand of type uint16).
-/
import Derived.Test.Qxb6632539aFmtRows
import Derived.Stop.CallBack
import Derived.Stop.IfaceNil
import GoSem.ClaimData
namespace Go.Proofs.Qxb6632539aFmt
open Go.Extern.Stop Go.Stop Go.Extern

-- fmt.Sprintf: function 8: a plain stop
theorem call8 (args : Array Value) (w : World) : (callFunc 8 args).run Tryf.prog w = ((FmtStop.sprintf #[9, 48] #[9] args).run Tryf.prog w).andThen fun v w' => .ok (.value v) w' :=
  run_callFunc_extern Tryf.func8 (by kernel_rfl) (by kernel_rfl) (by kernel_rfl) (by kernel_rfl) args w
theorem guard (name : String) (w : World) : (FmtStop.guard name).run Tryf.prog w = .ok () w := by kernel_rfl
-- "link type %d", 1 operand
theorem fmt0 : FmtStop.printed? ⟨#[108, 105, 110, 107, 32, 116, 121, 112, 101, 32, 37, 100]⟩ 1 = some [(0, 100, false)] := by kernel_rfl
theorem fmt0r (w : World) : (FmtDoors.printed ⟨#[108, 105, 110, 107, 32, 116, 121, 112, 101, 32, 37, 100]⟩ 1).run Tryf.prog w = .ok [(0, 100, false)] w := by kernel_rfl
-- type 22: uint16
def shape22 : List UInt8 := [7, 6, 0, 0, 0, 0, 0, 0, 0, 117, 105, 110, 116, 49, 54]
theorem op22_100 (name : String) (x : Int) (w : World) : (FmtStop.operand name false 100 false (.iface 22 (.int .u16 x))).run Tryf.prog w = .ok (shape22, Go.Extern.Stop.digits 8 (x % 2 ^ 64).toNat) w := by kernel_rfl

attribute [local go_sem] call8 guard fmt0 fmt0r op22_100

/-- WHAT fmt IS ASKED. -/
def reading (t : Int) : List (List UInt8) :=
  [[108, 105, 110, 107, 32, 116, 121, 112, 101, 32, 37, 100], shape22, digits 8 (t % 18446744073709551616).toNat]

end Go.Proofs.Qxb6632539aFmt
