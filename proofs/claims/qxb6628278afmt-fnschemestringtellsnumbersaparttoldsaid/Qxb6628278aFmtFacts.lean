/-
  DERIVED. The closed facts for a walk over the stopped front of fmt at this dump (after the guide own LabelFmt.lean).
-/
import Derived.Test.Qxb6628278aFmtRows
import Derived.Stop.CallBack
import Derived.Stop.IfaceNil
import GoSem.ClaimData
namespace Go.Proofs.Qxb6628278aFmt
open Go.Extern.Stop Go.Stop Go.Extern

theorem Tryf.call6 (args : Array Value) (w : World) : (callFunc 6 args).run Tryf.prog w = ((FmtStop.sprintf #[9, 45] #[9] args).run Tryf.prog w).andThen fun v w' => .ok (.value v) w' :=
  run_callFunc_extern Tryf.func6 (by kernel_rfl) (by kernel_rfl) (by kernel_rfl) (by kernel_rfl) args w
theorem Tryf.guard (name : String) (w : World) : (FmtStop.guard name).run Tryf.prog w = .ok () w := by kernel_rfl
theorem Tryf.fmt0 : FmtStop.printed? ⟨#[112, 114, 111, 116, 101, 99, 116, 105, 111, 110, 32, 115, 99, 104, 101, 109, 101, 32, 37, 100]⟩ 1 = some [(0, 100, false)] := by kernel_rfl
theorem Tryf.fmt0r (w : World) : (FmtDoors.printed ⟨#[112, 114, 111, 116, 101, 99, 116, 105, 111, 110, 32, 115, 99, 104, 101, 109, 101, 32, 37, 100]⟩ 1).run Tryf.prog w = .ok [(0, 100, false)] w := by kernel_rfl
theorem Tryf.fmt1 : FmtStop.printed? ⟨#[112, 114, 111, 116, 101, 99, 116, 105, 111, 110, 32, 115, 99, 104, 101, 109, 101, 32, 37, 100]⟩ 0 = some [] := by kernel_rfl
theorem Tryf.fmt1r (w : World) : (FmtDoors.printed ⟨#[112, 114, 111, 116, 101, 99, 116, 105, 111, 110, 32, 115, 99, 104, 101, 109, 101, 32, 37, 100]⟩ 0).run Tryf.prog w = .ok [] w := by kernel_rfl
def Tryf.shape3 : List UInt8 := [5, 3, 0, 0, 0, 0, 0, 0, 0, 105, 110, 116]
theorem Tryf.op3_118 (name : String) (x : Int) (w : World) : (FmtStop.operand name false 118 false (.iface 3 (.int .i64 x))).run Tryf.prog w = .ok (Tryf.shape3, Go.Extern.Stop.digits 8 (x % 2 ^ 64).toNat) w := by kernel_rfl
theorem Tryf.op3_100 (name : String) (x : Int) (w : World) : (FmtStop.operand name false 100 false (.iface 3 (.int .i64 x))).run Tryf.prog w = .ok (Tryf.shape3, Go.Extern.Stop.digits 8 (x % 2 ^ 64).toNat) w := by kernel_rfl
theorem Tryf.strict3 (name : String) (x : Int) (w : World) : (FmtStop.strict name (.iface 3 (.int .i64 x))).run Tryf.prog w = .ok (Tryf.shape3, Go.Extern.Stop.digits 8 (x % 2 ^ 64).toNat) w := by kernel_rfl
end Go.Proofs.Qxb6628278aFmt
