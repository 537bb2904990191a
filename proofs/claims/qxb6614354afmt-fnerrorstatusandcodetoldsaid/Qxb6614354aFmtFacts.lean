/-
  THE CLOSED FACTS of this dump on fmt.Sprintf's stopped front and on errors.New's own Error(). Each is proved by the kernel's evaluation.
-/
import Derived.Test.Qxb6614354aFmtRows
import Derived.Stop.CallBack
import Derived.Stop.IfaceNil
import GoSem.ClaimData
namespace Go.Proofs.Qxb6614354aFmt
open Go.Extern.Stop Go.Stop Go.Extern

/-- fmt.Sprintf: function 12: a plain stop. -/
theorem call12 (args : Array Value) (w : World) : (callFunc 12 args).run Tryf.prog w = ((FmtStop.sprintf #[9, 53] #[9] args).run Tryf.prog w).andThen fun v w' => .ok (.value v) w' :=
  run_callFunc_extern Tryf.func12 (by kernel_rfl) (by kernel_rfl) (by kernel_rfl) (by kernel_rfl) args w

theorem guard12 (name : String) (w : World) : (FmtStop.guard name).run Tryf.prog w = .ok () w := by kernel_rfl

/-- what the walk over the one literal format gives: one operand, under the verb d -/
theorem fmt0 : FmtStop.printed? ⟨#[32, 40, 72, 84, 84, 80, 32, 37, 100]⟩ 1 = some [(0, 100, false)] := by kernel_rfl
theorem fmt0r (w : World) : (FmtDoors.printed ⟨#[32, 40, 72, 84, 84, 80, 32, 37, 100]⟩ 1).run Tryf.prog w = .ok [(0, 100, false)] w := by kernel_rfl

/-- type 3: int -/
def shape3 : List UInt8 := [5, 3, 0, 0, 0, 0, 0, 0, 0, 105, 110, 116]
theorem op3_100 (name : String) (x : Int) (w : World) : (FmtStop.operand name false 100 false (.iface 3 (.int .i64 x))).run Tryf.prog w = .ok (shape3, Go.Extern.Stop.digits 8 (x % 2 ^ 64).toNat) w := by kernel_rfl

end Go.Proofs.Qxb6614354aFmt
